/-
  THE SHELL OF A PROOF OF 'Rows.FnSeasonLongitudeQuarterTurnsApartSaid' ('example.com/skyreckon/skyreckon/zzlaws_root_b1.FnSeasonLongitudeQuarterTurnsApart'), WRITTEN BY PROGRAM (proof-skeleton.mjs) off the guide's own print for that function. Not trusted: Lean checks it.
  The walk is filled; all else is the guide's template at this function's number and types.
-/
import Derived.Test.Qxb6613434aRows
import Derived.WalkKit
import Derived.ProofKit
import Derived.OpenShut
import Derived.ShutString
import Derived.WalkLawsBesides
import Derived.Laws.FloatArith
import Derived.Test.Qxb6613434aSeason
namespace Go.Proofs.Qxb6613434a.fnSeasonLongitudeQuarterTurnsApart
open Go.ChangeShapes Go.WideShapes Go.ChangeAt Go.RowKit
open Go.ChangeMaps (open_string shut_string)
set_option linter.unusedVariables false      -- a walk need not use every 'w<i>' (that an integer argument fits its kind)

theorem own : ownKnob Try.prog.godebug = none := by kernel_rfl

/-! ### STEP 1: THE WALK -/
/-- 'float64(n) * 90' gives r. -/
structure Deg (n : Int) (r : Nat) : Prop where
  out : floatBits .mul .f64 (floatOfInt .f64 n) 4636033603912859648 = some r

theorem longitude (n : Int) (r : Nat) (w : World) (h : floatBits .mul .f64 (floatOfInt .f64 n) 4636033603912859648 = some r) :
    Calls Try.prog 12 #[.int .i64 n] w fun e w' => e = .returned (.float .f64 r) ∧ w' = w := by
  have hop : ∀ t w, (binOp .mul t (.float .f64 (floatOfInt .f64 n)) (.float .f64 4636033603912859648)).run Try.prog w = .ok (.float .f64 r) w := fun t w => run_float_arith w .mul t .f64 _ _ r h
  clear h
  go_enter Try.func12, Try.ntmps12
  go_wp2_with (simp only [hop])
  go_ret
  exact ⟨rfl, rfl⟩

theorem export7 (n : Int) (r : Nat) (w : World) (h : Deg n r) :
    Calls Try.prog 7 #[.int .i64 n] w fun e w' => e = .returned (.float .f64 r) ∧ w' = w := by
  have hc : ∀ w, Calls Try.prog 12 #[.int .i64 n] w fun e w' => e = .returned (.float .f64 r) ∧ w' = w := fun w => longitude n r w h.out
  clear h
  go_enter Try.func7, Try.ntmps7
  go_wp2_with (go_at_call 12; refine (hc _).mono ?_; rintro e w' ⟨rfl, rfl⟩)
  go_ret
  exact ⟨rfl, rfl⟩

theorem inReach (n : Int) (w : World) (h : n ≤ 1099511627776 ∧ -1099511627776 ≤ n) :
    Calls Try.prog 6 #[.int .i64 n] w fun e w' => e = .returned (.bool true) ∧ w' = w := by
  obtain ⟨h1, h2⟩ := h
  go_enter Try.func6, Try.ntmps6
  go_wp2
  go_ret
  exact ⟨rfl, rfl⟩

theorem outOfReach (n : Int) (w : World) (h : ¬ (n ≤ 1099511627776 ∧ -1099511627776 ≤ n)) :
    Calls Try.prog 6 #[.int .i64 n] w fun e w' => e = .returned (.bool false) ∧ w' = w := by
  by_cases h1 : n ≤ 1099511627776
  · have h2 : ¬ (-1099511627776 ≤ n) := fun h2 => h ⟨h1, h2⟩
    clear h
    go_enter Try.func6, Try.ntmps6
    go_wp2
    go_ret
    exact ⟨rfl, rfl⟩
  · clear h
    go_enter Try.func6, Try.ntmps6
    go_wp2
    go_ret
    exact ⟨rfl, rfl⟩

theorem walk (a0 : Int) (a1 : Int) (w0 : (Lit.int .i64 a0).wf = true) (w1 : (Lit.int .i64 a1).wf = true) (w : World) :
    Calls Try.prog 3 #[.int .i64 a0, .int .i64 a1] w fun e w' => e = .returned (.bool true) ∧ Grown w w' := by
  by_cases h0 : a0 ≤ 1099511627776 ∧ -1099511627776 ≤ a0
  · by_cases h1 : a1 ≤ 1099511627776 ∧ -1099511627776 ≤ a1
    · obtain ⟨ls, lt, la, sum, dif, prod, m1, m2, m3, m4, m5, m6, o1, o2, o3⟩ := Fl.season_law a0 a1 (by omega) (by omega)
      have k1 : Deg a0 ls := ⟨m1⟩
      have k2 : Deg a1 lt := ⟨m2⟩
      have k3 : Deg (a0 + 4) la := ⟨m3⟩
      have p1 : ∀ t w, (binOp .add t (.float .f64 ls) (.float .f64 4645040803167600640)).run Try.prog w = .ok (.float .f64 sum) w := fun t w => run_float_arith w .add t .f64 _ _ _ m4
      have p2 : ∀ t w, (binOp .sub t (.float .f64 lt) (.float .f64 ls)).run Try.prog w = .ok (.float .f64 dif) w := fun t w => run_float_arith w .sub t .f64 _ _ _ m5
      have p3 : ∀ t w, (binOp .mul t (.float .f64 (floatOfInt .f64 (a1 - a0))) (.float .f64 4636033603912859648)).run Try.prog w = .ok (.float .f64 prod) w := fun t w => run_float_arith w .mul t .f64 _ _ _ m6
      clear w0 w1 m1 m2 m3 m4 m5 m6
      obtain ⟨b1, b2⟩ := h0
      obtain ⟨b3, b4⟩ := h1
      go_enter Try.func3, Try.ntmps3
      go_wp2_with (first
        | (go_at_call 6; refine (inReach _ _ (by omega)).mono ?_; rintro e w' ⟨rfl, rfl⟩)
        | (go_at_call 7; refine (export7 _ _ _ (by assumption)).mono ?_; rintro e w' ⟨rfl, rfl⟩))
      go_ret
      exact ⟨rfl, by repeat (first | exact Grown.refl _ | apply Grown.drew | apply Grown.alloc)⟩
    · clear w0 w1
      go_enter Try.func3, Try.ntmps3
      go_wp2_with (go_at_call 6; first | (refine (inReach _ _ (by omega)).mono ?_; rintro e w' ⟨rfl, rfl⟩) | (refine (outOfReach _ _ (by omega)).mono ?_; rintro e w' ⟨rfl, rfl⟩))
      go_ret
      exact ⟨rfl, Grown.refl _⟩
  · clear w0 w1
    go_enter Try.func3, Try.ntmps3
    go_wp2_with (go_at_call 6; refine (outOfReach _ _ (by omega)).mono ?_; rintro e w' ⟨rfl, rfl⟩)
    go_ret
    exact ⟨rfl, Grown.refl _⟩

/-! ### THE ROW's STEP: WRITTEN OUT: LEAVE IT -/
set_option maxRecDepth 100000 in
theorem lifted (os : Os) (started : os.Started) (H : Type) (enc : TypeId × Value → H) :
    ReturnsInHanded {} Try.checked os 3 .any (Rows.fnSeasonLongitudeQuarterTurnsApartSpec.pre6 enc Try.prog Try.f3 Rows.fnSeasonLongitudeQuarterTurnsApartRow.domain false) (Rows.fnSeasonLongitudeQuarterTurnsApartSpec.post enc Try.prog Try.f3 false true false false) := by
  refine returnsInHanded_of_change (C := Try.checked) own started (by kernel_rfl) Try.func3
    (ChangeSpec.witness6 (enc := enc) (C := Try.checked) false ⟨#[], #[.int .i64 0, .int .i64 0], []⟩ 8 (by kernel_rfl) (by kernel_rfl) (by kernel_rfl) (by kernel_rfl)) ?_
  intro W base args ds gs before hval0 hW hcnd _
  have hval : ∀ (j : Nat) t v, Try.f3.params[j]? = some t → args[j]? = some v → Value.okWide Try.prog W .any base t v := hval0
  have hW' := hW
  obtain ⟨p, q, hA0, hV, rfl, hfz, hnd⟩ := hW
  have hA : DataW.TrodAll enc Try.prog W 0 (fun _ => true) true Try.f3.params.toList args.toList ds p := hA0
  rw [Try.params3] at hA hval
  obtain ⟨v0, vs0, d0, ds0, p0, q0, hargs, rfl, rfl, h0, r0⟩ := trodAll_cons hA
  obtain ⟨v1, vs1, d1, ds1, p1, q1, rfl, rfl, rfl, h1, r1⟩ := trodAll_cons r0
  obtain ⟨rfl, rfl, rfl⟩ := trodAll_nil r1
  obtain rfl : args = #[v0, v1] := by cases args; simp_all
  obtain ⟨rfl, rfl⟩ := trodVars_none hV
  obtain ⟨a0, rfl, rfl, rfl, w0⟩ := open_int Try.underlying3 (hval 0 3 v0 rfl rfl) h0
  obtain ⟨a1, rfl, rfl, rfl, w1⟩ := open_int Try.underlying3 (hval 1 3 v1 rfl rfl) h1
  clear hA0 hval0
  simp only [List.append_nil] at hW'
  refine (walk a0 a1 w0 w1 W).mono fun e W' ⟨he, hg⟩ => ?_
  subst he
  exact ⟨_, rfl, post_of_same (pa := []) (pv := []) hW' (fun _ _ _ => (trodAll_cons_mk (shut_bool Try.underlying4 _) trodAll_mk0)) (fun sp _ => (trodAll_cons_mk (shut_int Try.underlying3 w0) (trodAll_cons_mk (shut_int Try.underlying3 w1) trodAll_mk0))) (fun _ _ => rfl) rfl
    (hg.frame _) hg.2.1 (ok_one (by kernel_rfl) rfl (okWide_bool_mk Try.underlying4 _))⟩

theorem over : Rows.fnSeasonLongitudeQuarterTurnsApartRow.holds Try.pinned (OpenSpec.ofChange Rows.fnSeasonLongitudeQuarterTurnsApartSpec) :=
  OpenClaim.holds_of_wide 3 Try.f3 rfl rfl rfl rfl rfl rfl rfl ⟨rfl, rfl, rfl, rfl, rfl⟩ rfl rfl rfl rfl rfl (by kernel_rfl) Try.func3 (by kernel_rfl)
    (of_decide_eq_true (by kernel_rfl)) (by unfold Func.isWrapper; first | (rw [if_pos (by decide +kernel)]; kernel_rfl) | (rw [if_neg (by decide +kernel)]; exact ⟨rfl, rfl⟩))
    (fun os started H enc _ => lifted os started H enc)

/-- ████ THE STATEMENT ████ -/
theorem proved : Rows.FnSeasonLongitudeQuarterTurnsApartSaid :=
  over
#print axioms proved
end Go.Proofs.Qxb6613434a.fnSeasonLongitudeQuarterTurnsApart
