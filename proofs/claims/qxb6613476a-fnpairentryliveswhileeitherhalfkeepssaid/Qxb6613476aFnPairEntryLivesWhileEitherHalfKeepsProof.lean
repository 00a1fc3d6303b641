/-
  THE PROOF OF 'Rows.FnPairEntryLivesWhileEitherHalfKeepsSaid': the walk by hand (the texts that it imports), the frame after the guide's template for this function's number and types.
-/
import Derived.Test.Qxb6613476aRows
import Derived.WalkKit
import Derived.ProofKit
import Derived.OpenShut
import Derived.Test.Qxb6613476aOpen
import Derived.Test.Qxb6613476aMain4A
import Derived.Test.Qxb6613476aMain4B
import Derived.Test.Qxb6613476aMain4C
namespace Go.Proofs.Qxb6613476a.fnPairEntryLivesWhileEitherHalfKeeps
open Go.ChangeShapes Go.WideShapes Go.ChangeAt Go.RowKit
set_option linter.unusedVariables false

theorem own : ownKnob Try.prog.godebug = none := by kernel_rfl

theorem walk4 (kc kp : Array Value) (p n : Int) (hk : KeyOK kc kp p) (hN : Num p n) (st pa : Int) (ta : Bool) (ps pu : Int) (sp pd tta tpd : Bool) (tp : Int) (w : World) :
    Calls Try.prog 4 #[.agg kc, .int .u8 n, .int .i64 st, .int .i64 pa, .bool ta, .int .i64 ps, .int .i64 pu, .bool sp, .bool pd, .bool tta, .bool tpd, .int .i64 tp] w fun e w' => e = .returned (.bool true) ∧ Below w.heap.size w w' := by
  cases ta
  · cases pd
    · skip
      cases tta
      · cases tpd
        · exact walk4_false_false_false_false kc kp p n hk hN st pa ps pu tp sp w
        · exact walk4_false_false_false_true kc kp p n hk hN st pa ps pu tp sp w
      · exact walk4_false_false_true_tpd kc kp p n hk hN st pa ps pu tp sp tpd w
    · skip
      cases tta
      · cases tpd
        · exact walk4_false_true_false_false kc kp p n hk hN st pa ps pu tp sp w
        · exact walk4_false_true_false_true kc kp p n hk hN st pa ps pu tp sp w
      · exact walk4_false_true_true_tpd kc kp p n hk hN st pa ps pu tp sp tpd w
  · skip
    cases tta
    · cases tpd
      · exact walk4_true_pd_false_false kc kp p n hk hN st pa ps pu tp sp pd w
      · exact walk4_true_pd_false_true kc kp p n hk hN st pa ps pu tp sp pd w
    · exact walk4_true_pd_true_tpd kc kp p n hk hN st pa ps pu tp sp pd tpd w

set_option maxRecDepth 100000 in
theorem lifted (os : Os) (started : os.Started) (H : Type) (enc : TypeId × Value → H) :
    ReturnsInHanded {} Try.checked os 4 .any (Rows.fnPairEntryLivesWhileEitherHalfKeepsSpec.pre6 enc Try.prog Try.f4 Rows.fnPairEntryLivesWhileEitherHalfKeepsRow.domain false) (Rows.fnPairEntryLivesWhileEitherHalfKeepsSpec.post enc Try.prog Try.f4 false true false false) := by
  refine returnsInHanded_of_change (C := Try.checked) own started (by kernel_rfl) Try.func4
    (ChangeSpec.witness6 (enc := enc) (C := Try.checked) false ⟨#[], #[.agg #[.int .u8 0, .int .u8 0, .int .u8 0, .int .u8 0, .int .u8 0, .int .u8 0, .int .u8 0, .int .u8 0, .int .u8 0, .int .u8 0, .int .u8 0, .int .u8 0, .int .u8 0, .int .u8 0, .int .u8 0, .int .u8 0], .int .u8 0, .int .i64 0, .int .i64 0, .bool false, .int .i64 0, .int .i64 0, .bool false, .bool false, .bool false, .bool false, .int .i64 0], []⟩ 8 (by kernel_rfl) (by kernel_rfl) (by kernel_rfl) (by kernel_rfl)) ?_
  intro W base args ds gs before hval0 hW hcnd _
  have hval : ∀ (j : Nat) t v, Try.f4.params[j]? = some t → args[j]? = some v → Value.okWide Try.prog W .any base t v := hval0
  have hW' := hW
  obtain ⟨p, q, hA0, hV, rfl, hfz, hnd⟩ := hW
  have hA : DataW.TrodAll enc Try.prog W 0 (fun _ => true) true Try.f4.params.toList args.toList ds p := hA0
  rw [Try.params4] at hA hval
  obtain ⟨v0, vs0, d0, ds0, p0, q0, hargs, rfl, rfl, h0, r0⟩ := trodAll_cons hA
  obtain ⟨v1, vs1, d1, ds1, p1, q1, rfl, rfl, rfl, h1, r1⟩ := trodAll_cons r0
  obtain ⟨v2, vs2, d2, ds2, p2, q2, rfl, rfl, rfl, h2, r2⟩ := trodAll_cons r1
  obtain ⟨v3, vs3, d3, ds3, p3, q3, rfl, rfl, rfl, h3, r3⟩ := trodAll_cons r2
  obtain ⟨v4, vs4, d4, ds4, p4, q4, rfl, rfl, rfl, h4, r4⟩ := trodAll_cons r3
  obtain ⟨v5, vs5, d5, ds5, p5, q5, rfl, rfl, rfl, h5, r5⟩ := trodAll_cons r4
  obtain ⟨v6, vs6, d6, ds6, p6, q6, rfl, rfl, rfl, h6, r6⟩ := trodAll_cons r5
  obtain ⟨v7, vs7, d7, ds7, p7, q7, rfl, rfl, rfl, h7, r7⟩ := trodAll_cons r6
  obtain ⟨v8, vs8, d8, ds8, p8, q8, rfl, rfl, rfl, h8, r8⟩ := trodAll_cons r7
  obtain ⟨v9, vs9, d9, ds9, p9, q9, rfl, rfl, rfl, h9, r9⟩ := trodAll_cons r8
  obtain ⟨v10, vs10, d10, ds10, p10, q10, rfl, rfl, rfl, h10, r10⟩ := trodAll_cons r9
  obtain ⟨v11, vs11, d11, ds11, p11, q11, rfl, rfl, rfl, h11, r11⟩ := trodAll_cons r10
  obtain ⟨rfl, rfl, rfl⟩ := trodAll_nil r11
  obtain rfl : args = #[v0, v1, v2, v3, v4, v5, v6, v7, v8, v9, v10, v11] := by cases args; simp_all
  obtain ⟨rfl, rfl⟩ := trodVars_none hV
  have kk := h0
  obtain ⟨k0, k1, k2, k3, k4, k5, k6, k7, k8, k9, k10, k11, k12, k13, k14, k15, rfl, rfl, wk0, wk1, wk2, wk3, wk4, wk5, wk6, wk7, wk8, wk9, wk10, wk11, wk12, wk13, wk14, wk15⟩ := open_key (hval 0 22 v0 rfl rfl) h0
  obtain ⟨a1, rfl, rfl, rfl, z1⟩ := open_int Try.underlying5 (hval 1 5 v1 rfl rfl) h1
  obtain ⟨a2, rfl, rfl, rfl, z2⟩ := open_int Try.underlying2 (hval 2 2 v2 rfl rfl) h2
  obtain ⟨a3, rfl, rfl, rfl, z3⟩ := open_int Try.underlying2 (hval 3 2 v3 rfl rfl) h3
  obtain ⟨a4, rfl, rfl, rfl⟩ := open_bool Try.underlying4 (hval 4 4 v4 rfl rfl) h4
  obtain ⟨a5, rfl, rfl, rfl, z5⟩ := open_int Try.underlying2 (hval 5 2 v5 rfl rfl) h5
  obtain ⟨a6, rfl, rfl, rfl, z6⟩ := open_int Try.underlying2 (hval 6 2 v6 rfl rfl) h6
  obtain ⟨a7, rfl, rfl, rfl⟩ := open_bool Try.underlying4 (hval 7 4 v7 rfl rfl) h7
  obtain ⟨a8, rfl, rfl, rfl⟩ := open_bool Try.underlying4 (hval 8 4 v8 rfl rfl) h8
  obtain ⟨a9, rfl, rfl, rfl⟩ := open_bool Try.underlying4 (hval 9 4 v9 rfl rfl) h9
  obtain ⟨a10, rfl, rfl, rfl⟩ := open_bool Try.underlying4 (hval 10 4 v10 rfl rfl) h10
  obtain ⟨a11, rfl, rfl, rfl, z11⟩ := open_int Try.underlying2 (hval 11 2 v11 rfl rfl) h11
  clear hA0 hval0
  obtain ⟨n0, n1⟩ := bounds8 z1
  have hk := keyOK k0 k1 k2 k3 k4 k5 k6 k7 k8 k9 k10 k11 k12 k13 k14 k15 wk0 wk1 wk2 wk3 wk4 wk5 wk6 wk7 wk8 wk9 wk10 wk11 wk12 wk13 wk14 wk15 a1 n0 n1
  refine (walk4 _ _ _ _ hk ⟨n0, n1, rfl⟩ a2 a3 a4 a5 a6 a7 a8 a9 a10 a11 W).mono fun e W' ⟨he, bel⟩ => ?_
  subst he
  exact ⟨_, rfl, _, _, _, [], _, [], hW', trodAll_mk1 (shut_bool Try.underlying4 _), (trodAll_cons_mk (Below.trod laidOut (by kernel_rfl) (of_decide_eq_true (by kernel_rfl)) kk bel (fun x hx => by cases hx)) (trodAll_cons_mk (shut_int Try.underlying5 z1) (trodAll_cons_mk (shut_int Try.underlying2 z2) (trodAll_cons_mk (shut_int Try.underlying2 z3) (trodAll_cons_mk (shut_bool Try.underlying4 a4) (trodAll_cons_mk (shut_int Try.underlying2 z5) (trodAll_cons_mk (shut_int Try.underlying2 z6) (trodAll_cons_mk (shut_bool Try.underlying4 a7) (trodAll_cons_mk (shut_bool Try.underlying4 a8) (trodAll_cons_mk (shut_bool Try.underlying4 a9) (trodAll_cons_mk (shut_bool Try.underlying4 a10) (trodAll_cons_mk (shut_int Try.underlying2 z11) trodAll_mk0)))))))))))), rfl, bel.frame _, fun h => by cases h⟩

theorem over : Rows.fnPairEntryLivesWhileEitherHalfKeepsRow.holds Try.pinned (OpenSpec.ofChange Rows.fnPairEntryLivesWhileEitherHalfKeepsSpec) :=
  OpenClaim.holds_of_wide 4 Try.f4 rfl rfl rfl rfl rfl rfl rfl ⟨rfl, rfl, rfl, rfl, rfl⟩ rfl rfl rfl rfl rfl (by kernel_rfl) Try.func4 (by kernel_rfl)
    (of_decide_eq_true (by kernel_rfl)) (by unfold Func.isWrapper; first | (rw [if_pos (by decide +kernel)]; kernel_rfl) | (rw [if_neg (by decide +kernel)]; exact ⟨rfl, rfl⟩))
    (fun os started H enc _ => lifted os started H enc)

/-- THE STATEMENT -/
theorem proved : Rows.FnPairEntryLivesWhileEitherHalfKeepsSaid := over
#print axioms proved
end Go.Proofs.Qxb6613476a.fnPairEntryLivesWhileEitherHalfKeeps
