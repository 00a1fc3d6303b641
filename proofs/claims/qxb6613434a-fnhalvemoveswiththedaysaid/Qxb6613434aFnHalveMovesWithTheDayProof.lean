/-
  THE PROOF OF 'Rows.FnHalveMovesWithTheDaySaid': the walk by hand, the frame after the guide's template for this function's number and types (four floats).
-/
import Derived.Test.Qxb6613434aRows
import Derived.WalkKit
import Derived.ProofKit
import Derived.OpenShut
import Derived.ShutString
import Derived.WalkLawsBesides
import Derived.Laws.FloatArith
import Derived.Test.Qxb6613434aHalveWalks
namespace Go.Proofs.Qxb6613434a.fnHalveMovesWithTheDay
open Go.ChangeShapes Go.WideShapes Go.ChangeAt Go.RowKit
set_option linter.unusedVariables false

theorem own : ownKnob Try.prog.godebug = none := by kernel_rfl

/-- the bits that the tape gives for a sum with a NaN -/
def nanOf (w : World) (t k : Nat) : Nat := Question.cut (.nanBits .f64 t k) (w.tape w.drawn (.nanBits .f64 t k))
theorem nanOf_nan (w : World) (t k : Nat) : ¬ Fl.num (nanOf w t k) := by
  unfold Fl.num nanOf Fl.rung
  rw [Fl.sw_eq, Fl.inf_eq]
  simp only [Question.cut]
  generalize w.tape w.drawn (.nanBits .f64 t k) = x
  have h2 : x / 2 % (2 ^ 52 - 1) < 2 ^ 52 - 1 := Nat.mod_lt _ (by decide)
  generalize x / 2 % (2 ^ 52 - 1) = y at h2
  have h1 : x % 2 = 0 ∨ x % 2 = 1 := by omega
  rcases h1 with h | h <;> rw [h] <;> omega
theorem nan_add {t k : Nat} (h : ¬ Fl.num t) (y : TypeId) (w : World) : (binOp .add y (.float .f64 t) (.float .f64 k)).run Try.prog w = .ok (.float .f64 (nanOf w t k)) w.drew := by
  have h' : FloatKind.f64.format.add t k = none := Fl.add_nan h
  simp only [binOp, Op.floatArith, h']
  rfl

set_option maxHeartbeats 1000000 in
theorem walk (s e t k : Nat) (w : World) :
    Calls Try.prog 5 #[.float .f64 s, .float .f64 e, .float .f64 t, .float .f64 k] w fun x w' => x = .returned (.bool true) ∧ Grown w w' := by
  cases hs : reachB s
  · go_enter Try.func5, Try.ntmps5
    go_wp2_with (go_at_call 8; refine (reach8 _ _).mono ?_; rintro e w' ⟨rfl, rfl⟩)
    go_ret
    exact ⟨rfl, Grown.refl _⟩
  cases he : reachB e
  · go_enter Try.func5, Try.ntmps5
    go_wp2_with (go_at_call 8; refine (reach8 _ _).mono ?_; rintro e w' ⟨rfl, rfl⟩)
    go_ret
    exact ⟨rfl, Grown.refl _⟩
  cases hk : reachB k
  · go_enter Try.func5, Try.ntmps5
    go_wp2_with (go_at_call 8; refine (reach8 _ _).mono ?_; rintro e w' ⟨rfl, rfl⟩)
    go_ret
    exact ⟨rfl, Grown.refl _⟩
  cases hle : leqB s e
  · have g0 : ∀ y, binOp .leq y (.float .f64 s) (.float .f64 e) = pure (.bool false) := fun y => leq_run hle y
    clear hle
    go_enter Try.func5, Try.ntmps5
    go_wp2_with (go_at_call 8; refine (reach8 _ _).mono ?_; rintro e w' ⟨rfl, rfl⟩)
    go_ret
    exact ⟨rfl, Grown.refl _⟩
  have is := in_of_reach hs
  have ie := in_of_reach he
  have ik := in_of_reach hk
  obtain ⟨ns, ne, hV⟩ := leq_of hle
  have inv := is.inv ie hV
  have n1 := Fl.halved_near (t := t) inv
  have g0 : ∀ y, binOp .leq y (.float .f64 s) (.float .f64 e) = pure (.bool true) := fun y => leq_run hle y
  obtain ⟨s', s1, _⟩ := Fl.moved is ik
  obtain ⟨e', e1, _⟩ := Fl.moved ie ik
  have p1 : ∀ y w, (binOp .add y (.float .f64 s) (.float .f64 k)).run Try.prog w = .ok (.float .f64 s') w := fun y w => run_float_arith w .add y .f64 _ _ _ s1
  have p2 : ∀ y w, (binOp .add y (.float .f64 e) (.float .f64 k)).run Try.prog w = .ok (.float .f64 e') w := fun y w => run_float_arith w .add y .f64 _ _ _ e1
  by_cases nt : Fl.num t
  · obtain ⟨t', _, t1, _⟩ := Fl.add_le nt nt ik.f (Int.le_refl _)
    have p3 : ∀ y w, (binOp .add y (.float .f64 t) (.float .f64 k)).run Try.prog w = .ok (.float .f64 t') w := fun y w => run_float_arith w .add y .f64 _ _ _ t1
    obtain ⟨inv', ak, k1, n2⟩ := Fl.moves (t := t) is ie ik hV s1 e1 (Or.inl t1)
    have p4 : ∀ y w, (binOp .add y (.float .f64 (Fl.halved t s e)) (.float .f64 k)).run Try.prog w = .ok (.float .f64 ak) w := fun y w => run_float_arith w .add y .f64 _ _ _ k1
    clear hle hV is ie ik ns ne s1 e1 t1 k1 nt
    go_enter Try.func5, Try.ntmps5
    go_wp2_with (first
      | (go_at_call 8; refine (reach8 _ _).mono ?_; rintro e w' ⟨rfl, rfl⟩)
      | (go_at_call 9; refine (export9 _ _ _ _ (by assumption)).mono ?_; rintro e w' ⟨rfl, hg⟩)
      | (go_at_call 11; refine (turn11 _ _ _ _).mono ?_; rintro e w' ⟨rfl, rfl⟩)
      | (go_at_call 10; refine (near10 _ _ _ _ (by assumption)).mono ?_; rintro e w' ⟨rfl, rfl⟩))
    go_ret
    exact ⟨rfl, grown_trans (by assumption) (by assumption)⟩
  · have p3 : ∀ y w, (binOp .add y (.float .f64 t) (.float .f64 k)).run Try.prog w = .ok (.float .f64 (nanOf w t k)) w.drew := fun y w => nan_add nt y w
    have hi := (Fl.halved_in (t := t) inv)
    have ia : Fl.In (Fl.halved t s e) := ⟨hi.1, by have := is.lo; omega, by have := ie.hi; omega⟩
    obtain ⟨ak, k1, _⟩ := Fl.moved ia ik
    have p4 : ∀ y w, (binOp .add y (.float .f64 (Fl.halved t s e)) (.float .f64 k)).run Try.prog w = .ok (.float .f64 ak) w := fun y w => run_float_arith w .add y .f64 _ _ _ k1
    have inv' : Fl.Inv s' e' := (Fl.moves (t := t) (t' := nanOf w t k) is ie ik hV s1 e1 (Or.inr ⟨nt, nanOf_nan _ _ _⟩)).1
    have n2 : ∀ w, Fl.Near (Fl.halved (nanOf w t k) s' e') ak 4537999922764202797 := by
      intro w
      obtain ⟨_, ak', k1', nr⟩ := Fl.moves (t := t) (t' := nanOf w t k) is ie ik hV s1 e1 (Or.inr ⟨nt, nanOf_nan _ _ _⟩)
      obtain rfl : ak' = ak := by rw [k1] at k1'; exact (Option.some.inj k1').symm
      exact nr
    clear hle hV is ie ik ns ne s1 e1 k1 nt hi ia
    go_enter Try.func5, Try.ntmps5
    go_wp2_with (first
      | (go_at_call 8; refine (reach8 _ _).mono ?_; rintro e w' ⟨rfl, rfl⟩)
      | (go_at_call 9; refine (export9 _ _ _ _ (by assumption)).mono ?_; rintro e w' ⟨rfl, hg⟩)
      | (go_at_call 11; refine (turn11 _ _ _ _).mono ?_; rintro e w' ⟨rfl, rfl⟩)
      | (go_at_call 10; refine (near10 _ _ _ _ (by first | assumption | exact n2 _)).mono ?_; rintro e w' ⟨rfl, rfl⟩))
    go_ret
    exact ⟨rfl, grown_trans (grown_trans (by assumption) (Grown.refl _).drew) (by assumption)⟩

/-! ### THE ROW's STEP: WRITTEN OUT: LEAVE IT -/
set_option maxRecDepth 100000 in
theorem lifted (os : Os) (started : os.Started) (H : Type) (enc : TypeId × Value → H) :
    ReturnsInHanded {} Try.checked os 5 .any (Rows.fnHalveMovesWithTheDaySpec.pre6 enc Try.prog Try.f5 Rows.fnHalveMovesWithTheDayRow.domain false) (Rows.fnHalveMovesWithTheDaySpec.post enc Try.prog Try.f5 false true false false) := by
  refine returnsInHanded_of_change (C := Try.checked) own started (by kernel_rfl) Try.func5
    (ChangeSpec.witness6 (enc := enc) (C := Try.checked) false ⟨#[], #[.float .f64 0, .float .f64 0, .float .f64 0, .float .f64 0], []⟩ 8 (by kernel_rfl) (by kernel_rfl) (by kernel_rfl) (by kernel_rfl)) ?_
  intro W base args ds gs before hval0 hW hcnd _
  have hval : ∀ (j : Nat) t v, Try.f5.params[j]? = some t → args[j]? = some v → Value.okWide Try.prog W .any base t v := hval0
  have hW' := hW
  obtain ⟨p, q, hA0, hV, rfl, hfz, hnd⟩ := hW
  have hA : DataW.TrodAll enc Try.prog W 0 (fun _ => true) true Try.f5.params.toList args.toList ds p := hA0
  rw [Try.params5] at hA hval
  obtain ⟨v0, vs0, d0, ds0, p0, q0, hargs, rfl, rfl, h0, r0⟩ := trodAll_cons hA
  obtain ⟨v1, vs1, d1, ds1, p1, q1, rfl, rfl, rfl, h1, r1⟩ := trodAll_cons r0
  obtain ⟨v2, vs2, d2, ds2, p2, q2, rfl, rfl, rfl, h2, r2⟩ := trodAll_cons r1
  obtain ⟨v3, vs3, d3, ds3, p3, q3, rfl, rfl, rfl, h3, r3⟩ := trodAll_cons r2
  obtain ⟨rfl, rfl, rfl⟩ := trodAll_nil r3
  obtain rfl : args = #[v0, v1, v2, v3] := by cases args; simp_all
  obtain ⟨rfl, rfl⟩ := trodVars_none hV
  obtain ⟨a0, rfl, rfl, rfl, w0⟩ := open_float Try.underlying23 (hval 0 23 v0 rfl rfl) h0
  obtain ⟨a1, rfl, rfl, rfl, w1⟩ := open_float Try.underlying23 (hval 1 23 v1 rfl rfl) h1
  obtain ⟨a2, rfl, rfl, rfl, w2⟩ := open_float Try.underlying23 (hval 2 23 v2 rfl rfl) h2
  obtain ⟨a3, rfl, rfl, rfl, w3⟩ := open_float Try.underlying23 (hval 3 23 v3 rfl rfl) h3
  clear hA0 hval0
  simp only [List.append_nil] at hW'
  refine (walk a0 a1 a2 a3 W).mono fun e W' ⟨he, hg⟩ => ?_
  subst he
  exact ⟨_, rfl, post_of_same (pa := []) (pv := []) hW' (fun _ _ _ => (trodAll_cons_mk (shut_bool Try.underlying4 _) trodAll_mk0)) (fun sp _ => (trodAll_cons_mk (shut_float Try.underlying23 w0) (trodAll_cons_mk (shut_float Try.underlying23 w1) (trodAll_cons_mk (shut_float Try.underlying23 w2) (trodAll_cons_mk (shut_float Try.underlying23 w3) trodAll_mk0))))) (fun _ _ => rfl) rfl
    (hg.frame _) hg.2.1 (ok_one (by kernel_rfl) rfl (okWide_bool_mk Try.underlying4 _))⟩

theorem over : Rows.fnHalveMovesWithTheDayRow.holds Try.pinned (OpenSpec.ofChange Rows.fnHalveMovesWithTheDaySpec) :=
  OpenClaim.holds_of_wide 5 Try.f5 rfl rfl rfl rfl rfl rfl rfl ⟨rfl, rfl, rfl, rfl, rfl⟩ rfl rfl rfl rfl rfl (by kernel_rfl) Try.func5 (by kernel_rfl)
    (of_decide_eq_true (by kernel_rfl)) (by unfold Func.isWrapper; first | (rw [if_pos (by decide +kernel)]; kernel_rfl) | (rw [if_neg (by decide +kernel)]; exact ⟨rfl, rfl⟩))
    (fun os started H enc _ => lifted os started H enc)

/-- ████ THE STATEMENT ████ -/
theorem proved : Rows.FnHalveMovesWithTheDaySaid :=
  over
#print axioms proved
end Go.Proofs.Qxb6613434a.fnHalveMovesWithTheDay
