import Derived.Test.Qxb6613476aWalksB
import Derived.Test.Qxb6613476aWalksC
namespace Go.Proofs.Qxb6613476a
open Go.RowKit
set_option linter.unusedVariables false

theorem look_any {K : Value} {l : Lit} (hK : keyOf Try.prog 65 K = some l) {w : World} {M : Nat} (o : Option (WS × WS)) (h : At K M w (o.map pairV)) (c : Bool) :
    (Instr.lookup 39 (.map (some M)) K c).run Try.prog w = .ok (if c then .tuple #[pairV (o.getD (.zero, .zero)), .bool o.isSome] else pairV (o.getD (.zero, .zero))) w := by
  cases o with
  | none => exact look_none hK h c
  | some v => exact look_one hK h c

/-- set, by the plain pair -/
theorem set14 (k0 k1 k2 k3 k4 k5 k6 k7 k8 k9 k10 k11 k12 k13 k14 k15 : Int) (n : Int) (hn : 0 ≤ n) (hn' : n ≤ 255) (s : WS) (B M : Nat) (o : Option (WS × WS)) (l : Lit) (w : World)
    (hK : keyOf Try.prog 65 (.agg #[.int .u8 k0, .int .u8 k1, .int .u8 k2, .int .u8 k3, .int .u8 k4, .int .u8 k5, .int .u8 k6, .int .u8 k7, .int .u8 k8, .int .u8 k9, .int .u8 k10, .int .u8 k11, .int .u8 k12, .int .u8 k13, .int .u8 k14, .int .u8 k15, .int .u8 (n / 2)]) = some l) (hc : w.cell? ⟨B, 2, none⟩ = some (.map (some M))) (hA : At (.agg #[.int .u8 k0, .int .u8 k1, .int .u8 k2, .int .u8 k3, .int .u8 k4, .int .u8 k5, .int .u8 k6, .int .u8 k7, .int .u8 k8, .int .u8 k9, .int .u8 k10, .int .u8 k11, .int .u8 k12, .int .u8 k13, .int .u8 k14, .int .u8 k15, .int .u8 (n / 2)]) M w (o.map pairV)) :
    Calls Try.prog 14 #[.pointer (some ⟨B, 0, none⟩), .agg #[.int .u8 k0, .int .u8 k1, .int .u8 k2, .int .u8 k3, .int .u8 k4, .int .u8 k5, .int .u8 k6, .int .u8 k7, .int .u8 k8, .int .u8 k9, .int .u8 k10, .int .u8 k11, .int .u8 k12, .int .u8 k13, .int .u8 k14, .int .u8 k15, .int .u8 n], .agg #[.int .i64 s.st, .int .i64 s.pa, .bool s.ta, .int .i64 s.ps, .int .i64 s.pu, .bool s.sp, .bool s.pd]] w fun e w' => e = .returned (.tuple #[]) ∧ At (.agg #[.int .u8 k0, .int .u8 k1, .int .u8 k2, .int .u8 k3, .int .u8 k4, .int .u8 k5, .int .u8 k6, .int .u8 k7, .int .u8 k8, .int .u8 k9, .int .u8 k10, .int .u8 k11, .int .u8 k12, .int .u8 k13, .int .u8 k14, .int .u8 k15, .int .u8 (n / 2)]) M w' ((put (n % 2) s o).map pairV) ∧ w.grownBy w' (some M) := by
  have hone : (#[.int .u8 k0, .int .u8 k1, .int .u8 k2, .int .u8 k3, .int .u8 k4, .int .u8 k5, .int .u8 k6, .int .u8 k7, .int .u8 k8, .int .u8 k9, .int .u8 k10, .int .u8 k11, .int .u8 k12, .int .u8 k13, .int .u8 k14, .int .u8 k15, .int .u8 (n / 2)] : Array Value).all (·.oneCell') = true := by simp [Value.oneCell']
  rcases (show n % 2 = 0 ∨ n % 2 = 1 by omega) with h | h
  · refine set14_0 _ _ rfl rfl hone s (o.getD (.zero, .zero)).1 (o.getD (.zero, .zero)).2 B M (o.map pairV) _ l w (fun w => h ▸ pair15 k0 k1 k2 k3 k4 k5 k6 k7 k8 k9 k10 k11 k12 k13 k14 k15 n hn hn' w) hK hc hA (fun W hW => look_any hK o hW false) ?_
    rw [h]; simp only [put, if_true]
    split <;> rfl
  · refine set14_1 _ _ rfl rfl hone s (o.getD (.zero, .zero)).1 (o.getD (.zero, .zero)).2 B M (o.map pairV) _ l w (fun w => h ▸ pair15 k0 k1 k2 k3 k4 k5 k6 k7 k8 k9 k10 k11 k12 k13 k14 k15 n hn hn' w) hK hc hA (fun W hW => look_any hK o hW false) ?_
    rw [h]; simp only [put, if_neg (show ¬ ((1 : Int) = 0) by decide)]
    split <;> rfl

set_option maxHeartbeats 1000000 in
set_option maxRecDepth 10000 in
theorem set7 (k0 k1 k2 k3 k4 k5 k6 k7 k8 k9 k10 k11 k12 k13 k14 k15 : Int) (n : Int) (hn : 0 ≤ n) (hn' : n ≤ 255) (s : WS) (B M : Nat) (o : Option (WS × WS)) (l : Lit) (w : World)
    (hK : keyOf Try.prog 65 (.agg #[.int .u8 k0, .int .u8 k1, .int .u8 k2, .int .u8 k3, .int .u8 k4, .int .u8 k5, .int .u8 k6, .int .u8 k7, .int .u8 k8, .int .u8 k9, .int .u8 k10, .int .u8 k11, .int .u8 k12, .int .u8 k13, .int .u8 k14, .int .u8 k15, .int .u8 (n / 2)]) = some l) (hc : w.cell? ⟨B, 2, none⟩ = some (.map (some M))) (hA : At (.agg #[.int .u8 k0, .int .u8 k1, .int .u8 k2, .int .u8 k3, .int .u8 k4, .int .u8 k5, .int .u8 k6, .int .u8 k7, .int .u8 k8, .int .u8 k9, .int .u8 k10, .int .u8 k11, .int .u8 k12, .int .u8 k13, .int .u8 k14, .int .u8 k15, .int .u8 (n / 2)]) M w (o.map pairV)) :
    Calls Try.prog 7 #[.pointer (some ⟨B, 0, none⟩), .agg #[.int .u8 k0, .int .u8 k1, .int .u8 k2, .int .u8 k3, .int .u8 k4, .int .u8 k5, .int .u8 k6, .int .u8 k7, .int .u8 k8, .int .u8 k9, .int .u8 k10, .int .u8 k11, .int .u8 k12, .int .u8 k13, .int .u8 k14, .int .u8 k15], .int .u8 n, .int .i64 s.st, .int .i64 s.pa, .bool s.ta, .int .i64 s.ps, .int .i64 s.pu, .bool s.sp, .bool s.pd] w fun e w' => e = .returned (.tuple #[]) ∧ At (.agg #[.int .u8 k0, .int .u8 k1, .int .u8 k2, .int .u8 k3, .int .u8 k4, .int .u8 k5, .int .u8 k6, .int .u8 k7, .int .u8 k8, .int .u8 k9, .int .u8 k10, .int .u8 k11, .int .u8 k12, .int .u8 k13, .int .u8 k14, .int .u8 k15, .int .u8 (n / 2)]) M w' ((put (n % 2) s o).map pairV) ∧ w.grownBy w' (some M) := by
  have hB := lt_of_cell hc
  have hM := At_lt hA
  have hc' : (w.alloc (.cells #[.int .u8 k0, .int .u8 k1, .int .u8 k2, .int .u8 k3, .int .u8 k4, .int .u8 k5, .int .u8 k6, .int .u8 k7, .int .u8 k8, .int .u8 k9, .int .u8 k10, .int .u8 k11, .int .u8 k12, .int .u8 k13, .int .u8 k14, .int .u8 k15] 22)).cell? ⟨B, 2, none⟩ = some (.map (some M)) := (World.cell?_alloc_past _ _ _ hB).trans hc
  have hA' : At (.agg #[.int .u8 k0, .int .u8 k1, .int .u8 k2, .int .u8 k3, .int .u8 k4, .int .u8 k5, .int .u8 k6, .int .u8 k7, .int .u8 k8, .int .u8 k9, .int .u8 k10, .int .u8 k11, .int .u8 k12, .int .u8 k13, .int .u8 k14, .int .u8 k15, .int .u8 (n / 2)]) M (w.alloc (.cells #[.int .u8 k0, .int .u8 k1, .int .u8 k2, .int .u8 k3, .int .u8 k4, .int .u8 k5, .int .u8 k6, .int .u8 k7, .int .u8 k8, .int .u8 k9, .int .u8 k10, .int .u8 k11, .int .u8 k12, .int .u8 k13, .int .u8 k14, .int .u8 k15] 22)) (o.map pairV) := by rw [At_alloc _ hM]; exact hA
  have HC : Hid (∀ w1, Calls Try.prog 14 #[.pointer (some ⟨B, 0, none⟩), .agg #[.int .u8 k0, .int .u8 k1, .int .u8 k2, .int .u8 k3, .int .u8 k4, .int .u8 k5, .int .u8 k6, .int .u8 k7, .int .u8 k8, .int .u8 k9, .int .u8 k10, .int .u8 k11, .int .u8 k12, .int .u8 k13, .int .u8 k14, .int .u8 k15, .int .u8 n], .agg #[.int .i64 s.st, .int .i64 s.pa, .bool s.ta, .int .i64 s.ps, .int .i64 s.pu, .bool s.sp, .bool s.pd]] w1 fun e w' => True) ∨ True := Or.inr trivial
  have HS : Hid (Calls Try.prog 14 #[.pointer (some ⟨B, 0, none⟩), .agg #[.int .u8 k0, .int .u8 k1, .int .u8 k2, .int .u8 k3, .int .u8 k4, .int .u8 k5, .int .u8 k6, .int .u8 k7, .int .u8 k8, .int .u8 k9, .int .u8 k10, .int .u8 k11, .int .u8 k12, .int .u8 k13, .int .u8 k14, .int .u8 k15, .int .u8 n], .agg #[.int .i64 s.st, .int .i64 s.pa, .bool s.ta, .int .i64 s.ps, .int .i64 s.pu, .bool s.sp, .bool s.pd]] (w.alloc (.cells #[.int .u8 k0, .int .u8 k1, .int .u8 k2, .int .u8 k3, .int .u8 k4, .int .u8 k5, .int .u8 k6, .int .u8 k7, .int .u8 k8, .int .u8 k9, .int .u8 k10, .int .u8 k11, .int .u8 k12, .int .u8 k13, .int .u8 k14, .int .u8 k15] 22)) fun e w' => e = .returned (.tuple #[]) ∧ At (.agg #[.int .u8 k0, .int .u8 k1, .int .u8 k2, .int .u8 k3, .int .u8 k4, .int .u8 k5, .int .u8 k6, .int .u8 k7, .int .u8 k8, .int .u8 k9, .int .u8 k10, .int .u8 k11, .int .u8 k12, .int .u8 k13, .int .u8 k14, .int .u8 k15, .int .u8 (n / 2)]) M w' ((put (n % 2) s o).map pairV) ∧ (w.alloc (.cells #[.int .u8 k0, .int .u8 k1, .int .u8 k2, .int .u8 k3, .int .u8 k4, .int .u8 k5, .int .u8 k6, .int .u8 k7, .int .u8 k8, .int .u8 k9, .int .u8 k10, .int .u8 k11, .int .u8 k12, .int .u8 k13, .int .u8 k14, .int .u8 k15] 22)).grownBy w' (some M)) :=
    set14 k0 k1 k2 k3 k4 k5 k6 k7 k8 k9 k10 k11 k12 k13 k14 k15 n hn hn' s B M o l _ hK hc' hA'
  clear HC hc' hA' hc hA hK
  go_enter Try.func7, Try.ntmps7
  go_wp2_with (first
    | (go_at_call 14; refine HS.out.mono ?_; rintro e w1 ⟨rfl, hA1, hg1⟩; have HR : Hid (At (.agg #[.int .u8 k0, .int .u8 k1, .int .u8 k2, .int .u8 k3, .int .u8 k4, .int .u8 k5, .int .u8 k6, .int .u8 k7, .int .u8 k8, .int .u8 k9, .int .u8 k10, .int .u8 k11, .int .u8 k12, .int .u8 k13, .int .u8 k14, .int .u8 k15, .int .u8 (n / 2)]) M w1 ((put (n % 2) s o).map pairV) ∧ (w.alloc (.cells #[.int .u8 k0, .int .u8 k1, .int .u8 k2, .int .u8 k3, .int .u8 k4, .int .u8 k5, .int .u8 k6, .int .u8 k7, .int .u8 k8, .int .u8 k9, .int .u8 k10, .int .u8 k11, .int .u8 k12, .int .u8 k13, .int .u8 k14, .int .u8 k15] 22)).grownBy w1 (some M)) := ⟨hA1, hg1⟩; clear hA1 hg1)
    | (refine wpList_load_x 22 (.pointer (some ⟨w.heap.size, 0, none⟩)) (.agg #[.int .u8 k0, .int .u8 k1, .int .u8 k2, .int .u8 k3, .int .u8 k4, .int .u8 k5, .int .u8 k6, .int .u8 k7, .int .u8 k8, .int .u8 k9, .int .u8 k10, .int .u8 k11, .int .u8 k12, .int .u8 k13, .int .u8 k14, .int .u8 k15]) rfl (loadAt_row (heap_alloc_last w _) rfl Try.underlying22 16 info22 rfl) ?_))
  go_end0
  exact ⟨rfl, HR.out.1, grown_trans (grown_of_below M ((Below.refl _ _).alloc (Nat.le_refl _) _)) HR.out.2⟩

end Go.Proofs.Qxb6613476a
