/-
  THE PROOF OF 'Rows.FnHalveFindsTheTurnAndKeepsOrderSaid': the walk by hand, the frame after the guide's template for this function's number and types (four floats).
-/
import Derived.Test.Qxb6613434aRows
import Derived.WalkKit
import Derived.ProofKit
import Derived.OpenShut
import Derived.ShutString
import Derived.WalkLawsBesides
import Derived.Laws.FloatArith
import Derived.Test.Qxb6613434aHalveWalks
namespace Go.Proofs.Qxb6613434a.fnHalveFindsTheTurnAndKeepsOrder
open Go.ChangeShapes Go.WideShapes Go.ChangeAt Go.RowKit
set_option linter.unusedVariables false

theorem own : ownKnob Try.prog.godebug = none := by kernel_rfl

set_option maxHeartbeats 1000000 in
theorem walk (s e t u : Nat) (w : World) :
    Calls Try.prog 4 #[.float .f64 s, .float .f64 e, .float .f64 t, .float .f64 u] w fun x w' => x = .returned (.bool true) ∧ Grown w w' := by
  cases hs : reachB s
  · go_enter Try.func4, Try.ntmps4
    go_wp2_with (go_at_call 8; refine (reach8 _ _).mono ?_; rintro e w' ⟨rfl, rfl⟩)
    go_ret
    exact ⟨rfl, Grown.refl _⟩
  cases he : reachB e
  · go_enter Try.func4, Try.ntmps4
    go_wp2_with (go_at_call 8; refine (reach8 _ _).mono ?_; rintro e w' ⟨rfl, rfl⟩)
    go_ret
    exact ⟨rfl, Grown.refl _⟩
  cases hle : leqB s e
  · have g0 : ∀ y, binOp .leq y (.float .f64 s) (.float .f64 e) = pure (.bool false) := fun y => leq_run hle y
    clear hle
    go_enter Try.func4, Try.ntmps4
    go_wp2_with (go_at_call 8; refine (reach8 _ _).mono ?_; rintro e w' ⟨rfl, rfl⟩)
    go_ret
    exact ⟨rfl, Grown.refl _⟩
  have is := in_of_reach hs
  have ie := in_of_reach he
  obtain ⟨ns, ne, hV⟩ := leq_of hle
  have inv := is.inv ie hV
  obtain ⟨fa, a1, a2⟩ := Fl.halved_in (t := t) inv
  obtain ⟨fb, b1, b2⟩ := Fl.halved_in (t := u) inv
  have n1 := Fl.halved_near (t := t) inv
  have n2 := Fl.halved_near (t := u) inv
  have g0 : ∀ y, binOp .leq y (.float .f64 s) (.float .f64 e) = pure (.bool true) := fun y => leq_run hle y
  have g1 : ∀ y, binOp .geq y (.float .f64 (Fl.halved t s e)) (.float .f64 s) = pure (.bool true) := fun y => geq_run (geq_mk (Fl.num_of_fin fa) ns a1) y
  have g2 : ∀ y, binOp .leq y (.float .f64 (Fl.halved t s e)) (.float .f64 e) = pure (.bool true) := fun y => leq_run (leq_mk (Fl.num_of_fin fa) ne a2) y
  have g3 : ∀ y, binOp .geq y (.float .f64 (Fl.halved u s e)) (.float .f64 s) = pure (.bool true) := fun y => geq_run (geq_mk (Fl.num_of_fin fb) ns b1) y
  have g4 : ∀ y, binOp .leq y (.float .f64 (Fl.halved u s e)) (.float .f64 e) = pure (.bool true) := fun y => leq_run (leq_mk (Fl.num_of_fin fb) ne b2) y
  cases htu : leqB t u
  · have g5 : ∀ y, binOp .leq y (.float .f64 t) (.float .f64 u) = pure (.bool false) := fun y => leq_run htu y
    clear htu hle hV a1 a2 b1 b2 fa fb is ie ns ne
    go_enter Try.func4, Try.ntmps4
    go_wp2_with (first
      | (go_at_call 8; refine (reach8 _ _).mono ?_; rintro e w' ⟨rfl, rfl⟩)
      | (go_at_call 9; refine (export9 _ _ _ _ inv).mono ?_; rintro e w' ⟨rfl, hg⟩)
      | (go_at_call 11; refine (turn11 _ _ _ _).mono ?_; rintro e w' ⟨rfl, rfl⟩)
      | (go_at_call 10; refine (near10 _ _ _ _ (by assumption)).mono ?_; rintro e w' ⟨rfl, rfl⟩))
    go_ret
    exact ⟨rfl, grown_trans (by assumption) (by assumption)⟩
  · obtain ⟨nt, nu, hT⟩ := leq_of htu
    have hm := Fl.halved_mono t u nt nu hT _ _ _ inv (Nat.le_refl _)
    have g5 : ∀ y, binOp .leq y (.float .f64 t) (.float .f64 u) = pure (.bool true) := fun y => leq_run htu y
    have g6 : ∀ y, binOp .gtr y (.float .f64 (Fl.halved t s e)) (.float .f64 (Fl.halved u s e)) = pure (.bool false) := fun y => gtr_run (Fl.num_of_fin fa) (Fl.num_of_fin fb) hm y
    clear htu hle hV a1 a2 b1 b2 fa fb is ie ns ne nt nu hT hm
    go_enter Try.func4, Try.ntmps4
    go_wp2_with (first
      | (go_at_call 8; refine (reach8 _ _).mono ?_; rintro e w' ⟨rfl, rfl⟩)
      | (go_at_call 9; refine (export9 _ _ _ _ inv).mono ?_; rintro e w' ⟨rfl, hg⟩)
      | (go_at_call 11; refine (turn11 _ _ _ _).mono ?_; rintro e w' ⟨rfl, rfl⟩)
      | (go_at_call 10; refine (near10 _ _ _ _ (by assumption)).mono ?_; rintro e w' ⟨rfl, rfl⟩))
    go_ret
    exact ⟨rfl, grown_trans (by assumption) (by assumption)⟩

/-! ### THE ROW's STEP: WRITTEN OUT: LEAVE IT -/
set_option maxRecDepth 100000 in
theorem lifted (os : Os) (started : os.Started) (H : Type) (enc : TypeId × Value → H) :
    ReturnsInHanded {} Try.checked os 4 .any (Rows.fnHalveFindsTheTurnAndKeepsOrderSpec.pre6 enc Try.prog Try.f4 Rows.fnHalveFindsTheTurnAndKeepsOrderRow.domain false) (Rows.fnHalveFindsTheTurnAndKeepsOrderSpec.post enc Try.prog Try.f4 false true false false) := by
  refine returnsInHanded_of_change (C := Try.checked) own started (by kernel_rfl) Try.func4
    (ChangeSpec.witness6 (enc := enc) (C := Try.checked) false ⟨#[], #[.float .f64 0, .float .f64 0, .float .f64 0, .float .f64 0], []⟩ 8 (by kernel_rfl) (by kernel_rfl) (by kernel_rfl) (by kernel_rfl)) ?_
  intro W base args ds gs before hval0 hW hcnd _
  have hval : ∀ (j : Nat) t v, Try.f4.params[j]? = some t → args[j]? = some v → Value.okWide Try.prog W .any base t v := hval0
  have hW' := hW
  obtain ⟨p, q, hA0, hV, rfl, hfz, hnd⟩ := hW
  have hA : DataW.TrodAll enc Try.prog W 0 (fun _ => true) true Try.f4.params.toList args.toList ds p := hA0
  rw [Try.params4] at hA hval
  obtain ⟨v0, vs0, d0, ds0, p0, q0, hargs, rfl, rfl, h0, r0⟩ := trodAll_cons hA
  obtain ⟨v1, vs1, d1, ds1, p1, q1, rfl, rfl, rfl, h1, r1⟩ := trodAll_cons r0
  obtain ⟨v2, vs2, d2, ds2, p2, q2, rfl, rfl, rfl, h2, r2⟩ := trodAll_cons r1
  obtain ⟨v3, vs3, d3, ds3, p3, q3, rfl, rfl, rfl, h3, r3⟩ := trodAll_cons r2
  obtain ⟨rfl, rfl, rfl⟩ := trodAll_nil r3
  obtain rfl : args = #[v0, v1, v2, v3] := by cases args; simp_all
  obtain ⟨rfl, rfl⟩ := trodVars_none hV
  obtain ⟨a0, rfl, rfl, rfl, w0⟩ := open_float Try.underlying23 (hval 0 23 v0 rfl rfl) h0
  obtain ⟨a1, rfl, rfl, rfl, w1⟩ := open_float Try.underlying23 (hval 1 23 v1 rfl rfl) h1
  obtain ⟨a2, rfl, rfl, rfl, w2⟩ := open_float Try.underlying23 (hval 2 23 v2 rfl rfl) h2
  obtain ⟨a3, rfl, rfl, rfl, w3⟩ := open_float Try.underlying23 (hval 3 23 v3 rfl rfl) h3
  clear hA0 hval0
  simp only [List.append_nil] at hW'
  refine (walk a0 a1 a2 a3 W).mono fun e W' ⟨he, hg⟩ => ?_
  subst he
  exact ⟨_, rfl, post_of_same (pa := []) (pv := []) hW' (fun _ _ _ => (trodAll_cons_mk (shut_bool Try.underlying4 _) trodAll_mk0)) (fun sp _ => (trodAll_cons_mk (shut_float Try.underlying23 w0) (trodAll_cons_mk (shut_float Try.underlying23 w1) (trodAll_cons_mk (shut_float Try.underlying23 w2) (trodAll_cons_mk (shut_float Try.underlying23 w3) trodAll_mk0))))) (fun _ _ => rfl) rfl
    (hg.frame _) hg.2.1 (ok_one (by kernel_rfl) rfl (okWide_bool_mk Try.underlying4 _))⟩

theorem over : Rows.fnHalveFindsTheTurnAndKeepsOrderRow.holds Try.pinned (OpenSpec.ofChange Rows.fnHalveFindsTheTurnAndKeepsOrderSpec) :=
  OpenClaim.holds_of_wide 4 Try.f4 rfl rfl rfl rfl rfl rfl rfl ⟨rfl, rfl, rfl, rfl, rfl⟩ rfl rfl rfl rfl rfl (by kernel_rfl) Try.func4 (by kernel_rfl)
    (of_decide_eq_true (by kernel_rfl)) (by unfold Func.isWrapper; first | (rw [if_pos (by decide +kernel)]; kernel_rfl) | (rw [if_neg (by decide +kernel)]; exact ⟨rfl, rfl⟩))
    (fun os started H enc _ => lifted os started H enc)

/-- ████ THE STATEMENT ████ -/
theorem proved : Rows.FnHalveFindsTheTurnAndKeepsOrderSaid :=
  over
#print axioms proved
end Go.Proofs.Qxb6613434a.fnHalveFindsTheTurnAndKeepsOrder
