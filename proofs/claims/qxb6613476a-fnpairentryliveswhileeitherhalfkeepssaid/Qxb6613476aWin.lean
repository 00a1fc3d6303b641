import Derived.Test.Qxb6613476aSet
import Derived.Deep.QuietTactic
import Derived.BigQuiet
namespace Go.Proofs.Qxb6613476a
open Go.RowKit
set_option linter.unusedVariables false

theorem half_one (s : WS) : (#[.int .i64 s.st, .int .i64 s.pa, .bool s.ta, .int .i64 s.ps, .int .i64 s.pu, .bool s.sp, .bool s.pd] : Array Value).all (·.oneCell') = true := by simp [Value.oneCell']

set_option maxHeartbeats 2000000 in
set_option maxRecDepth 10000 in
theorem windowAt_0 (k0 k1 k2 k3 k4 k5 k6 k7 k8 k9 k10 k11 k12 k13 k14 k15 : Int) (n : Int) (hn : 0 ≤ n) (hn' : n ≤ 255) (hat : n % 2 = 0) (a b : WS) (ok : Bool) (B M : Nat) (st : Option Value) (w : World)
    (hc : w.cell? ⟨B, 2, none⟩ = some (.map (some M))) (hA : At (.agg #[.int .u8 k0, .int .u8 k1, .int .u8 k2, .int .u8 k3, .int .u8 k4, .int .u8 k5, .int .u8 k6, .int .u8 k7, .int .u8 k8, .int .u8 k9, .int .u8 k10, .int .u8 k11, .int .u8 k12, .int .u8 k13, .int .u8 k14, .int .u8 k15, .int .u8 (n / 2)]) M w st)
    (hl : ∀ (W : World), At (.agg #[.int .u8 k0, .int .u8 k1, .int .u8 k2, .int .u8 k3, .int .u8 k4, .int .u8 k5, .int .u8 k6, .int .u8 k7, .int .u8 k8, .int .u8 k9, .int .u8 k10, .int .u8 k11, .int .u8 k12, .int .u8 k13, .int .u8 k14, .int .u8 k15, .int .u8 (n / 2)]) M W st → (Instr.lookup 39 (.map (some M)) (.agg #[.int .u8 k0, .int .u8 k1, .int .u8 k2, .int .u8 k3, .int .u8 k4, .int .u8 k5, .int .u8 k6, .int .u8 k7, .int .u8 k8, .int .u8 k9, .int .u8 k10, .int .u8 k11, .int .u8 k12, .int .u8 k13, .int .u8 k14, .int .u8 k15, .int .u8 (n / 2)]) true).run Try.prog W = .ok (.tuple #[.agg #[.int .i64 a.st, .int .i64 a.pa, .bool a.ta, .int .i64 a.ps, .int .i64 a.pu, .bool a.sp, .bool a.pd, .int .i64 b.st, .int .i64 b.pa, .bool b.ta, .int .i64 b.ps, .int .i64 b.pu, .bool b.sp, .bool b.pd], .bool ok]) W) :
    Calls Try.prog 9 #[.pointer (some ⟨B, 0, none⟩), .agg #[.int .u8 k0, .int .u8 k1, .int .u8 k2, .int .u8 k3, .int .u8 k4, .int .u8 k5, .int .u8 k6, .int .u8 k7, .int .u8 k8, .int .u8 k9, .int .u8 k10, .int .u8 k11, .int .u8 k12, .int .u8 k13, .int .u8 k14, .int .u8 k15], .int .u8 n] w fun e w' => e = .returned (.tuple #[.bool ok, .int .i64 a.st, .int .i64 a.pa, .bool a.ta, .int .i64 a.ps, .int .i64 a.pu, .bool a.sp, .bool a.pd]) ∧ Below w.heap.size w w' := by
  have hB := lt_of_cell hc
  have hM := At_lt hA
  have HL : Hid (∀ (W : World), At (.agg #[.int .u8 k0, .int .u8 k1, .int .u8 k2, .int .u8 k3, .int .u8 k4, .int .u8 k5, .int .u8 k6, .int .u8 k7, .int .u8 k8, .int .u8 k9, .int .u8 k10, .int .u8 k11, .int .u8 k12, .int .u8 k13, .int .u8 k14, .int .u8 k15, .int .u8 (n / 2)]) M W st → (Instr.lookup 39 (.map (some M)) (.agg #[.int .u8 k0, .int .u8 k1, .int .u8 k2, .int .u8 k3, .int .u8 k4, .int .u8 k5, .int .u8 k6, .int .u8 k7, .int .u8 k8, .int .u8 k9, .int .u8 k10, .int .u8 k11, .int .u8 k12, .int .u8 k13, .int .u8 k14, .int .u8 k15, .int .u8 (n / 2)]) true).run Try.prog W = .ok (.tuple #[.agg #[.int .i64 a.st, .int .i64 a.pa, .bool a.ta, .int .i64 a.ps, .int .i64 a.pu, .bool a.sp, .bool a.pd, .int .i64 b.st, .int .i64 b.pa, .bool b.ta, .int .i64 b.ps, .int .i64 b.pu, .bool b.sp, .bool b.pd], .bool ok]) W) := hl
  have HA : Hid (At (.agg #[.int .u8 k0, .int .u8 k1, .int .u8 k2, .int .u8 k3, .int .u8 k4, .int .u8 k5, .int .u8 k6, .int .u8 k7, .int .u8 k8, .int .u8 k9, .int .u8 k10, .int .u8 k11, .int .u8 k12, .int .u8 k13, .int .u8 k14, .int .u8 k15, .int .u8 (n / 2)]) M w st) := hA
  have H1 : Hid ((#[.int .u8 k0, .int .u8 k1, .int .u8 k2, .int .u8 k3, .int .u8 k4, .int .u8 k5, .int .u8 k6, .int .u8 k7, .int .u8 k8, .int .u8 k9, .int .u8 k10, .int .u8 k11, .int .u8 k12, .int .u8 k13, .int .u8 k14, .int .u8 k15, .int .u8 (n / 2)] : Array Value).all (·.oneCell') = true) := (by show Array.all _ _ = true; simp [Value.oneCell'])
  clear hl hA
  go_enter Try.func9, Try.ntmps9
  go_wp2_with (first
    | (go_at_call 15; refine (pair15 _ _ _ _ _ _ _ _ _ _ _ _ _ _ _ _ (n) (by omega) (by omega) _).mono ?_; rintro e w1 ⟨rfl, hb1⟩; have HB : Hid (Below (w.alloc (.cells #[.int .u8 k0, .int .u8 k1, .int .u8 k2, .int .u8 k3, .int .u8 k4, .int .u8 k5, .int .u8 k6, .int .u8 k7, .int .u8 k8, .int .u8 k9, .int .u8 k10, .int .u8 k11, .int .u8 k12, .int .u8 k13, .int .u8 k14, .int .u8 k15] 22)).heap.size (w.alloc (.cells #[.int .u8 k0, .int .u8 k1, .int .u8 k2, .int .u8 k3, .int .u8 k4, .int .u8 k5, .int .u8 k6, .int .u8 k7, .int .u8 k8, .int .u8 k9, .int .u8 k10, .int .u8 k11, .int .u8 k12, .int .u8 k13, .int .u8 k14, .int .u8 k15] 22)) w1) := hb1; clear hb1)
    | (refine wpList_load_x 22 (.pointer (some ⟨w.heap.size, 0, none⟩)) (.agg #[.int .u8 k0, .int .u8 k1, .int .u8 k2, .int .u8 k3, .int .u8 k4, .int .u8 k5, .int .u8 k6, .int .u8 k7, .int .u8 k8, .int .u8 k9, .int .u8 k10, .int .u8 k11, .int .u8 k12, .int .u8 k13, .int .u8 k14, .int .u8 k15]) rfl (loadAt_row (heap_alloc_last w _) rfl Try.underlying22 16 info22 rfl) ?_)
    | (refine wpList_store_x 65 (.pointer (some ⟨w1.heap.size, 0, none⟩)) (.agg #[.int .u8 k0, .int .u8 k1, .int .u8 k2, .int .u8 k3, .int .u8 k4, .int .u8 k5, .int .u8 k6, .int .u8 k7, .int .u8 k8, .int .u8 k9, .int .u8 k10, .int .u8 k11, .int .u8 k12, .int .u8 k13, .int .u8 k14, .int .u8 k15, .int .u8 (n / 2)]) (w1.alloc (.cells #[.int .u8 k0, .int .u8 k1, .int .u8 k2, .int .u8 k3, .int .u8 k4, .int .u8 k5, .int .u8 k6, .int .u8 k7, .int .u8 k8, .int .u8 k9, .int .u8 k10, .int .u8 k11, .int .u8 k12, .int .u8 k13, .int .u8 k14, .int .u8 k15, .int .u8 (n / 2)] 65)) rfl rfl (storeAt_new 17 info65 rfl rfl H1.out) ?_))
  have hs1 : w.heap.size < w1.heap.size := by have := HB.out.size; simp at this; omega
  have bl : ∀ i, i < w.heap.size → w1.heap[i]? = w.heap[i]? := fun i hi => (HB.out.block i (by simp; omega)).trans (Below.heap_alloc _ _ _ hi)
  have hH : Held B M w1.heap.size #[.int .u8 k0, .int .u8 k1, .int .u8 k2, .int .u8 k3, .int .u8 k4, .int .u8 k5, .int .u8 k6, .int .u8 k7, .int .u8 k8, .int .u8 k9, .int .u8 k10, .int .u8 k11, .int .u8 k12, .int .u8 k13, .int .u8 k14, .int .u8 k15, .int .u8 (n / 2)] st (w1.alloc (.cells #[.int .u8 k0, .int .u8 k1, .int .u8 k2, .int .u8 k3, .int .u8 k4, .int .u8 k5, .int .u8 k6, .int .u8 k7, .int .u8 k8, .int .u8 k9, .int .u8 k10, .int .u8 k11, .int .u8 k12, .int .u8 k13, .int .u8 k14, .int .u8 k15, .int .u8 (n / 2)] 65)) := ⟨(World.cell?_alloc_past _ _ _ (by omega)).trans ((World.cell?_of_block (a := ⟨B, 2, none⟩) (bl B hB)).trans hc), (by rw [At_alloc _ (by omega), At_of_block (bl M hM)]; exact HA.out), heap_alloc_last _ _, (by simp; omega), (by simp)⟩
  have BW1 : Hid (Below w.heap.size w w1) := ((Below.refl _ _).alloc (Nat.le_refl _) _).trans (HB.out.mono (by simp))
  have HS : Hid ((#[.int .u8 k0, .int .u8 k1, .int .u8 k2, .int .u8 k3, .int .u8 k4, .int .u8 k5, .int .u8 k6, .int .u8 k7, .int .u8 k8, .int .u8 k9, .int .u8 k10, .int .u8 k11, .int .u8 k12, .int .u8 k13, .int .u8 k14, .int .u8 k15, .int .u8 (n / 2)] : Array Value).size = 17) := rfl
  clear HA hc H1 bl HB
  generalize hkp : (#[.int .u8 k0, .int .u8 k1, .int .u8 k2, .int .u8 k3, .int .u8 k4, .int .u8 k5, .int .u8 k6, .int .u8 k7, .int .u8 k8, .int .u8 k9, .int .u8 k10, .int .u8 k11, .int .u8 k12, .int .u8 k13, .int .u8 k14, .int .u8 k15, .int .u8 (n / 2)] : Array Value) = kp at *
  clear hkp
  generalize hkw : (#[.int .u8 k0, .int .u8 k1, .int .u8 k2, .int .u8 k3, .int .u8 k4, .int .u8 k5, .int .u8 k6, .int .u8 k7, .int .u8 k8, .int .u8 k9, .int .u8 k10, .int .u8 k11, .int .u8 k12, .int .u8 k13, .int .u8 k14, .int .u8 k15, .int .u8 n] : Array Value) = kw at *
  clear hkw
  generalize hkc : (#[.int .u8 k0, .int .u8 k1, .int .u8 k2, .int .u8 k3, .int .u8 k4, .int .u8 k5, .int .u8 k6, .int .u8 k7, .int .u8 k8, .int .u8 k9, .int .u8 k10, .int .u8 k11, .int .u8 k12, .int .u8 k13, .int .u8 k14, .int .u8 k15] : Array Value) = kc at *
  clear hkc
  refine wp_region_held_drew (S := Held B M w1.heap.size kp st) (by kernel_rfl) hH.drew (fun hHeld => ?_)
  refine take_x 0 (.pointer (some ⟨B, 0, none⟩)) rfl (by kernel_rfl) (by kernel_rfl) (by kernel_rfl) (fun _ _ _ h => h) (Or.inl ⟨by rfl, fun W hW => by rfl⟩) hHeld ?_
  try simp only [Act.put, List.setIfInBounds_toArray, List.set_cons_zero, List.set_cons_succ]
  refine take_x 1 (.pointer (some ⟨B, 0, none⟩)) rfl (by kernel_rfl) (by kernel_rfl) (by kernel_rfl) (fun _ _ _ h => h) (Or.inl ⟨by rfl, fun W hW => by rfl⟩) hHeld ?_
  try simp only [Act.put, List.setIfInBounds_toArray, List.set_cons_zero, List.set_cons_succ]
  refine take_x 2 (.pointer (some ⟨B, 2, none⟩)) rfl (by kernel_rfl) (by kernel_rfl) (by kernel_rfl) (fun _ _ _ h => h) (Or.inl ⟨by rfl, fun W hW => by go_simp⟩) hHeld ?_
  try simp only [Act.put, List.setIfInBounds_toArray, List.set_cons_zero, List.set_cons_succ]
  refine take_x 3 (.map (some M)) rfl (by kernel_rfl) (by kernel_rfl) (by kernel_rfl) (fun _ _ _ h => h) (yieldsIf_load (by rfl) 39 _ rfl (.pointer (some ⟨B, 2, none⟩)) _ rfl (fun W hW => loadAt_39 hW.field)) hHeld ?_
  try simp only [Act.put, List.setIfInBounds_toArray, List.set_cons_zero, List.set_cons_succ]
  refine take_x 4 (.agg kp) rfl (by kernel_rfl) (by kernel_rfl) (by kernel_rfl) (fun _ _ _ h => h) (yieldsIf_load (by rfl) 65 _ rfl (.pointer (some ⟨w1.heap.size, 0, none⟩)) _ rfl (fun W hW => loadAt_row hW.row rfl Try.underlying65 17 info65 HS.out)) hHeld ?_
  try simp only [Act.put, List.setIfInBounds_toArray, List.set_cons_zero, List.set_cons_succ]
  refine take_x 5 (.tuple #[.agg #[.int .i64 a.st, .int .i64 a.pa, .bool a.ta, .int .i64 a.ps, .int .i64 a.pu, .bool a.sp, .bool a.pd, .int .i64 b.st, .int .i64 b.pa, .bool b.ta, .int .i64 b.ps, .int .i64 b.pu, .bool b.sp, .bool b.pd], .bool ok]) rfl (by kernel_rfl) (by kernel_rfl) (by kernel_rfl) (fun _ _ _ h => h) (yieldsIf_lookup (by rfl) 39 _ _ true rfl (.map (some M)) (.agg kp) _ rfl rfl (fun W hW => HL.out W hW.map)) hHeld ?_
  try simp only [Act.put, List.setIfInBounds_toArray, List.set_cons_zero, List.set_cons_succ]
  refine take_x 6 (.tuple #[.agg #[.int .i64 a.st, .int .i64 a.pa, .bool a.ta, .int .i64 a.ps, .int .i64 a.pu, .bool a.sp, .bool a.pd, .int .i64 b.st, .int .i64 b.pa, .bool b.ta, .int .i64 b.ps, .int .i64 b.pu, .bool b.sp, .bool b.pd], .bool ok]) rfl (by kernel_rfl) (by kernel_rfl) (by kernel_rfl) (fun _ _ _ h => h) (Or.inl ⟨by rfl, fun W hW => by rfl⟩) hHeld ?_
  try simp only [Act.put, List.setIfInBounds_toArray, List.set_cons_zero, List.set_cons_succ]
  refine take_x 7 (.agg #[.int .i64 a.st, .int .i64 a.pa, .bool a.ta, .int .i64 a.ps, .int .i64 a.pu, .bool a.sp, .bool a.pd, .int .i64 b.st, .int .i64 b.pa, .bool b.ta, .int .i64 b.ps, .int .i64 b.pu, .bool b.sp, .bool b.pd]) rfl (by kernel_rfl) (by kernel_rfl) (by kernel_rfl) (fun _ _ _ h => h) (Or.inl ⟨by rfl, fun W hW => by go_simp⟩) hHeld ?_
  try simp only [Act.put, List.setIfInBounds_toArray, List.set_cons_zero, List.set_cons_succ]
  refine take_x 8 (.bool ok) rfl (by kernel_rfl) (by kernel_rfl) (by kernel_rfl) (fun _ _ _ h => h) (Or.inl ⟨by rfl, fun W hW => by go_simp⟩) hHeld ?_
  try simp only [Act.put, List.setIfInBounds_toArray, List.set_cons_zero, List.set_cons_succ]
  refine one_x 9 rfl (by kernel_rfl) (fun K hK => ?_)
  go_simp
  refine hK.out _ _ (hH.alloc _).drew (fun hHeld => ?_)
  clear hK K
  refine one_x 10 rfl (by kernel_rfl) (fun K hK => ?_)
  rw [if_pos (by rfl)]
  refine wp_run_store 69 _ _ rfl (.pointer (some ⟨w1.heap.size + 1, 0, none⟩)) (.agg #[.int .i64 a.st, .int .i64 a.pa, .bool a.ta, .int .i64 a.ps, .int .i64 a.pu, .bool a.sp, .bool a.pd, .int .i64 b.st, .int .i64 b.pa, .bool b.ta, .int .i64 b.ps, .int .i64 b.pu, .bool b.sp, .bool b.pd]) ((w1.alloc (.cells kp 65)).alloc (.cells #[.int .i64 a.st, .int .i64 a.pa, .bool a.ta, .int .i64 a.ps, .int .i64 a.pu, .bool a.sp, .bool a.pd, .int .i64 b.st, .int .i64 b.pa, .bool b.ta, .int .i64 b.ps, .int .i64 b.pu, .bool b.sp, .bool b.pd] 69)).drew rfl rfl (storeAt_new_drew (by simp) 14 info69 rfl rfl (pair_one a b)) ?_
  simp only [Act.put]
  refine hK.out _ _ (hH.alloc _).drew (fun hHeld => ?_)
  clear hK K
  refine take_x 11 (.bool ok) rfl (by kernel_rfl) (by kernel_rfl) (by kernel_rfl) (fun _ _ _ h => h) (Or.inl ⟨by rfl, fun W hW => by rfl⟩) hHeld ?_
  try simp only [Act.put, List.setIfInBounds_toArray, List.set_cons_zero, List.set_cons_succ]
  refine wpAnyH_done (by kernel_rfl) ?_ _
  clear hHeld
  have HRow : Hid (((w1.alloc (.cells kp 65)).alloc (.cells #[.int .i64 a.st, .int .i64 a.pa, .bool a.ta, .int .i64 a.ps, .int .i64 a.pu, .bool a.sp, .bool a.pd, .int .i64 b.st, .int .i64 b.pa, .bool b.ta, .int .i64 b.ps, .int .i64 b.pu, .bool b.sp, .bool b.pd] 69)).drew.heap[w1.heap.size + 1]? = some (.cells #[.int .i64 a.st, .int .i64 a.pa, .bool a.ta, .int .i64 a.ps, .int .i64 a.pu, .bool a.sp, .bool a.pd, .int .i64 b.st, .int .i64 b.pa, .bool b.ta, .int .i64 b.ps, .int .i64 b.pu, .bool b.sp, .bool b.pd] 69 (0, 0))) := (by show ((w1.alloc _).alloc _).heap[w1.heap.size + 1]? = _; rw [show w1.heap.size + 1 = (w1.alloc (.cells kp 65)).heap.size by simp]; exact heap_alloc_last _ _)
  clear hH
  go_wp2_with (first
    | (refine wpList_load_x 37 (.pointer (some ⟨w1.heap.size + 1, 0, none⟩)) (.agg #[.int .i64 a.st, .int .i64 a.pa, .bool a.ta, .int .i64 a.ps, .int .i64 a.pu, .bool a.sp, .bool a.pd]) rfl (load37_at a (range_0 a b HRow.out)) ?_)
    | (refine wpList_store_x 37 (.pointer (some ⟨w1.heap.size + 1 + 1, 0, none⟩)) (.agg #[.int .i64 a.st, .int .i64 a.pa, .bool a.ta, .int .i64 a.ps, .int .i64 a.pu, .bool a.sp, .bool a.pd]) (((w1.alloc (.cells kp 65)).alloc (.cells #[.int .i64 a.st, .int .i64 a.pa, .bool a.ta, .int .i64 a.ps, .int .i64 a.pu, .bool a.sp, .bool a.pd, .int .i64 b.st, .int .i64 b.pa, .bool b.ta, .int .i64 b.ps, .int .i64 b.pu, .bool b.sp, .bool b.pd] 69)).alloc (.cells #[.int .i64 a.st, .int .i64 a.pa, .bool a.ta, .int .i64 a.ps, .int .i64 a.pu, .bool a.sp, .bool a.pd] 37)).drew rfl rfl (storeAt_new_drew (by simp) 7 info37 rfl rfl (half_one a)) ?_))
  go_quiet (fail)
  go_wp2
  have hb := ((BW1.out.alloc (by omega) (.cells kp 65)).alloc (by simp; omega) (.cells #[.int .i64 a.st, .int .i64 a.pa, .bool a.ta, .int .i64 a.ps, .int .i64 a.pu, .bool a.sp, .bool a.pd, .int .i64 b.st, .int .i64 b.pa, .bool b.ta, .int .i64 b.ps, .int .i64 b.pu, .bool b.sp, .bool b.pd] 69)).alloc (by simp; omega) (.cells #[.int .i64 a.st, .int .i64 a.pa, .bool a.ta, .int .i64 a.ps, .int .i64 a.pu, .bool a.sp, .bool a.pd] 37)
  exact bodyPost_ret (v := .tuple #[.bool ok, .int .i64 a.st, .int .i64 a.pa, .bool a.ta, .int .i64 a.ps, .int .i64 a.pu, .bool a.sp, .bool a.pd]) (by simp [results, Try.results9, go_sem]) rfl ⟨rfl, ⟨hb.os, hb.tape, hb.output, hb.size, hb.block⟩⟩

set_option maxHeartbeats 2000000 in
set_option maxRecDepth 10000 in
theorem windowAt_1 (k0 k1 k2 k3 k4 k5 k6 k7 k8 k9 k10 k11 k12 k13 k14 k15 : Int) (n : Int) (hn : 0 ≤ n) (hn' : n ≤ 255) (hat : n % 2 = 1) (a b : WS) (ok : Bool) (B M : Nat) (st : Option Value) (w : World)
    (hc : w.cell? ⟨B, 2, none⟩ = some (.map (some M))) (hA : At (.agg #[.int .u8 k0, .int .u8 k1, .int .u8 k2, .int .u8 k3, .int .u8 k4, .int .u8 k5, .int .u8 k6, .int .u8 k7, .int .u8 k8, .int .u8 k9, .int .u8 k10, .int .u8 k11, .int .u8 k12, .int .u8 k13, .int .u8 k14, .int .u8 k15, .int .u8 (n / 2)]) M w st)
    (hl : ∀ (W : World), At (.agg #[.int .u8 k0, .int .u8 k1, .int .u8 k2, .int .u8 k3, .int .u8 k4, .int .u8 k5, .int .u8 k6, .int .u8 k7, .int .u8 k8, .int .u8 k9, .int .u8 k10, .int .u8 k11, .int .u8 k12, .int .u8 k13, .int .u8 k14, .int .u8 k15, .int .u8 (n / 2)]) M W st → (Instr.lookup 39 (.map (some M)) (.agg #[.int .u8 k0, .int .u8 k1, .int .u8 k2, .int .u8 k3, .int .u8 k4, .int .u8 k5, .int .u8 k6, .int .u8 k7, .int .u8 k8, .int .u8 k9, .int .u8 k10, .int .u8 k11, .int .u8 k12, .int .u8 k13, .int .u8 k14, .int .u8 k15, .int .u8 (n / 2)]) true).run Try.prog W = .ok (.tuple #[.agg #[.int .i64 a.st, .int .i64 a.pa, .bool a.ta, .int .i64 a.ps, .int .i64 a.pu, .bool a.sp, .bool a.pd, .int .i64 b.st, .int .i64 b.pa, .bool b.ta, .int .i64 b.ps, .int .i64 b.pu, .bool b.sp, .bool b.pd], .bool ok]) W) :
    Calls Try.prog 9 #[.pointer (some ⟨B, 0, none⟩), .agg #[.int .u8 k0, .int .u8 k1, .int .u8 k2, .int .u8 k3, .int .u8 k4, .int .u8 k5, .int .u8 k6, .int .u8 k7, .int .u8 k8, .int .u8 k9, .int .u8 k10, .int .u8 k11, .int .u8 k12, .int .u8 k13, .int .u8 k14, .int .u8 k15], .int .u8 n] w fun e w' => e = .returned (.tuple #[.bool ok, .int .i64 b.st, .int .i64 b.pa, .bool b.ta, .int .i64 b.ps, .int .i64 b.pu, .bool b.sp, .bool b.pd]) ∧ Below w.heap.size w w' := by
  have hB := lt_of_cell hc
  have hM := At_lt hA
  have HL : Hid (∀ (W : World), At (.agg #[.int .u8 k0, .int .u8 k1, .int .u8 k2, .int .u8 k3, .int .u8 k4, .int .u8 k5, .int .u8 k6, .int .u8 k7, .int .u8 k8, .int .u8 k9, .int .u8 k10, .int .u8 k11, .int .u8 k12, .int .u8 k13, .int .u8 k14, .int .u8 k15, .int .u8 (n / 2)]) M W st → (Instr.lookup 39 (.map (some M)) (.agg #[.int .u8 k0, .int .u8 k1, .int .u8 k2, .int .u8 k3, .int .u8 k4, .int .u8 k5, .int .u8 k6, .int .u8 k7, .int .u8 k8, .int .u8 k9, .int .u8 k10, .int .u8 k11, .int .u8 k12, .int .u8 k13, .int .u8 k14, .int .u8 k15, .int .u8 (n / 2)]) true).run Try.prog W = .ok (.tuple #[.agg #[.int .i64 a.st, .int .i64 a.pa, .bool a.ta, .int .i64 a.ps, .int .i64 a.pu, .bool a.sp, .bool a.pd, .int .i64 b.st, .int .i64 b.pa, .bool b.ta, .int .i64 b.ps, .int .i64 b.pu, .bool b.sp, .bool b.pd], .bool ok]) W) := hl
  have HA : Hid (At (.agg #[.int .u8 k0, .int .u8 k1, .int .u8 k2, .int .u8 k3, .int .u8 k4, .int .u8 k5, .int .u8 k6, .int .u8 k7, .int .u8 k8, .int .u8 k9, .int .u8 k10, .int .u8 k11, .int .u8 k12, .int .u8 k13, .int .u8 k14, .int .u8 k15, .int .u8 (n / 2)]) M w st) := hA
  have H1 : Hid ((#[.int .u8 k0, .int .u8 k1, .int .u8 k2, .int .u8 k3, .int .u8 k4, .int .u8 k5, .int .u8 k6, .int .u8 k7, .int .u8 k8, .int .u8 k9, .int .u8 k10, .int .u8 k11, .int .u8 k12, .int .u8 k13, .int .u8 k14, .int .u8 k15, .int .u8 (n / 2)] : Array Value).all (·.oneCell') = true) := (by show Array.all _ _ = true; simp [Value.oneCell'])
  clear hl hA
  go_enter Try.func9, Try.ntmps9
  go_wp2_with (first
    | (go_at_call 15; refine (pair15 _ _ _ _ _ _ _ _ _ _ _ _ _ _ _ _ (n) (by omega) (by omega) _).mono ?_; rintro e w1 ⟨rfl, hb1⟩; have HB : Hid (Below (w.alloc (.cells #[.int .u8 k0, .int .u8 k1, .int .u8 k2, .int .u8 k3, .int .u8 k4, .int .u8 k5, .int .u8 k6, .int .u8 k7, .int .u8 k8, .int .u8 k9, .int .u8 k10, .int .u8 k11, .int .u8 k12, .int .u8 k13, .int .u8 k14, .int .u8 k15] 22)).heap.size (w.alloc (.cells #[.int .u8 k0, .int .u8 k1, .int .u8 k2, .int .u8 k3, .int .u8 k4, .int .u8 k5, .int .u8 k6, .int .u8 k7, .int .u8 k8, .int .u8 k9, .int .u8 k10, .int .u8 k11, .int .u8 k12, .int .u8 k13, .int .u8 k14, .int .u8 k15] 22)) w1) := hb1; clear hb1)
    | (refine wpList_load_x 22 (.pointer (some ⟨w.heap.size, 0, none⟩)) (.agg #[.int .u8 k0, .int .u8 k1, .int .u8 k2, .int .u8 k3, .int .u8 k4, .int .u8 k5, .int .u8 k6, .int .u8 k7, .int .u8 k8, .int .u8 k9, .int .u8 k10, .int .u8 k11, .int .u8 k12, .int .u8 k13, .int .u8 k14, .int .u8 k15]) rfl (loadAt_row (heap_alloc_last w _) rfl Try.underlying22 16 info22 rfl) ?_)
    | (refine wpList_store_x 65 (.pointer (some ⟨w1.heap.size, 0, none⟩)) (.agg #[.int .u8 k0, .int .u8 k1, .int .u8 k2, .int .u8 k3, .int .u8 k4, .int .u8 k5, .int .u8 k6, .int .u8 k7, .int .u8 k8, .int .u8 k9, .int .u8 k10, .int .u8 k11, .int .u8 k12, .int .u8 k13, .int .u8 k14, .int .u8 k15, .int .u8 (n / 2)]) (w1.alloc (.cells #[.int .u8 k0, .int .u8 k1, .int .u8 k2, .int .u8 k3, .int .u8 k4, .int .u8 k5, .int .u8 k6, .int .u8 k7, .int .u8 k8, .int .u8 k9, .int .u8 k10, .int .u8 k11, .int .u8 k12, .int .u8 k13, .int .u8 k14, .int .u8 k15, .int .u8 (n / 2)] 65)) rfl rfl (storeAt_new 17 info65 rfl rfl H1.out) ?_))
  have hs1 : w.heap.size < w1.heap.size := by have := HB.out.size; simp at this; omega
  have bl : ∀ i, i < w.heap.size → w1.heap[i]? = w.heap[i]? := fun i hi => (HB.out.block i (by simp; omega)).trans (Below.heap_alloc _ _ _ hi)
  have hH : Held B M w1.heap.size #[.int .u8 k0, .int .u8 k1, .int .u8 k2, .int .u8 k3, .int .u8 k4, .int .u8 k5, .int .u8 k6, .int .u8 k7, .int .u8 k8, .int .u8 k9, .int .u8 k10, .int .u8 k11, .int .u8 k12, .int .u8 k13, .int .u8 k14, .int .u8 k15, .int .u8 (n / 2)] st (w1.alloc (.cells #[.int .u8 k0, .int .u8 k1, .int .u8 k2, .int .u8 k3, .int .u8 k4, .int .u8 k5, .int .u8 k6, .int .u8 k7, .int .u8 k8, .int .u8 k9, .int .u8 k10, .int .u8 k11, .int .u8 k12, .int .u8 k13, .int .u8 k14, .int .u8 k15, .int .u8 (n / 2)] 65)) := ⟨(World.cell?_alloc_past _ _ _ (by omega)).trans ((World.cell?_of_block (a := ⟨B, 2, none⟩) (bl B hB)).trans hc), (by rw [At_alloc _ (by omega), At_of_block (bl M hM)]; exact HA.out), heap_alloc_last _ _, (by simp; omega), (by simp)⟩
  have BW1 : Hid (Below w.heap.size w w1) := ((Below.refl _ _).alloc (Nat.le_refl _) _).trans (HB.out.mono (by simp))
  have HS : Hid ((#[.int .u8 k0, .int .u8 k1, .int .u8 k2, .int .u8 k3, .int .u8 k4, .int .u8 k5, .int .u8 k6, .int .u8 k7, .int .u8 k8, .int .u8 k9, .int .u8 k10, .int .u8 k11, .int .u8 k12, .int .u8 k13, .int .u8 k14, .int .u8 k15, .int .u8 (n / 2)] : Array Value).size = 17) := rfl
  clear HA hc H1 bl HB
  generalize hkp : (#[.int .u8 k0, .int .u8 k1, .int .u8 k2, .int .u8 k3, .int .u8 k4, .int .u8 k5, .int .u8 k6, .int .u8 k7, .int .u8 k8, .int .u8 k9, .int .u8 k10, .int .u8 k11, .int .u8 k12, .int .u8 k13, .int .u8 k14, .int .u8 k15, .int .u8 (n / 2)] : Array Value) = kp at *
  clear hkp
  generalize hkw : (#[.int .u8 k0, .int .u8 k1, .int .u8 k2, .int .u8 k3, .int .u8 k4, .int .u8 k5, .int .u8 k6, .int .u8 k7, .int .u8 k8, .int .u8 k9, .int .u8 k10, .int .u8 k11, .int .u8 k12, .int .u8 k13, .int .u8 k14, .int .u8 k15, .int .u8 n] : Array Value) = kw at *
  clear hkw
  generalize hkc : (#[.int .u8 k0, .int .u8 k1, .int .u8 k2, .int .u8 k3, .int .u8 k4, .int .u8 k5, .int .u8 k6, .int .u8 k7, .int .u8 k8, .int .u8 k9, .int .u8 k10, .int .u8 k11, .int .u8 k12, .int .u8 k13, .int .u8 k14, .int .u8 k15] : Array Value) = kc at *
  clear hkc
  refine wp_region_held_drew (S := Held B M w1.heap.size kp st) (by kernel_rfl) hH.drew (fun hHeld => ?_)
  refine take_x 0 (.pointer (some ⟨B, 0, none⟩)) rfl (by kernel_rfl) (by kernel_rfl) (by kernel_rfl) (fun _ _ _ h => h) (Or.inl ⟨by rfl, fun W hW => by rfl⟩) hHeld ?_
  try simp only [Act.put, List.setIfInBounds_toArray, List.set_cons_zero, List.set_cons_succ]
  refine take_x 1 (.pointer (some ⟨B, 0, none⟩)) rfl (by kernel_rfl) (by kernel_rfl) (by kernel_rfl) (fun _ _ _ h => h) (Or.inl ⟨by rfl, fun W hW => by rfl⟩) hHeld ?_
  try simp only [Act.put, List.setIfInBounds_toArray, List.set_cons_zero, List.set_cons_succ]
  refine take_x 2 (.pointer (some ⟨B, 2, none⟩)) rfl (by kernel_rfl) (by kernel_rfl) (by kernel_rfl) (fun _ _ _ h => h) (Or.inl ⟨by rfl, fun W hW => by go_simp⟩) hHeld ?_
  try simp only [Act.put, List.setIfInBounds_toArray, List.set_cons_zero, List.set_cons_succ]
  refine take_x 3 (.map (some M)) rfl (by kernel_rfl) (by kernel_rfl) (by kernel_rfl) (fun _ _ _ h => h) (yieldsIf_load (by rfl) 39 _ rfl (.pointer (some ⟨B, 2, none⟩)) _ rfl (fun W hW => loadAt_39 hW.field)) hHeld ?_
  try simp only [Act.put, List.setIfInBounds_toArray, List.set_cons_zero, List.set_cons_succ]
  refine take_x 4 (.agg kp) rfl (by kernel_rfl) (by kernel_rfl) (by kernel_rfl) (fun _ _ _ h => h) (yieldsIf_load (by rfl) 65 _ rfl (.pointer (some ⟨w1.heap.size, 0, none⟩)) _ rfl (fun W hW => loadAt_row hW.row rfl Try.underlying65 17 info65 HS.out)) hHeld ?_
  try simp only [Act.put, List.setIfInBounds_toArray, List.set_cons_zero, List.set_cons_succ]
  refine take_x 5 (.tuple #[.agg #[.int .i64 a.st, .int .i64 a.pa, .bool a.ta, .int .i64 a.ps, .int .i64 a.pu, .bool a.sp, .bool a.pd, .int .i64 b.st, .int .i64 b.pa, .bool b.ta, .int .i64 b.ps, .int .i64 b.pu, .bool b.sp, .bool b.pd], .bool ok]) rfl (by kernel_rfl) (by kernel_rfl) (by kernel_rfl) (fun _ _ _ h => h) (yieldsIf_lookup (by rfl) 39 _ _ true rfl (.map (some M)) (.agg kp) _ rfl rfl (fun W hW => HL.out W hW.map)) hHeld ?_
  try simp only [Act.put, List.setIfInBounds_toArray, List.set_cons_zero, List.set_cons_succ]
  refine take_x 6 (.tuple #[.agg #[.int .i64 a.st, .int .i64 a.pa, .bool a.ta, .int .i64 a.ps, .int .i64 a.pu, .bool a.sp, .bool a.pd, .int .i64 b.st, .int .i64 b.pa, .bool b.ta, .int .i64 b.ps, .int .i64 b.pu, .bool b.sp, .bool b.pd], .bool ok]) rfl (by kernel_rfl) (by kernel_rfl) (by kernel_rfl) (fun _ _ _ h => h) (Or.inl ⟨by rfl, fun W hW => by rfl⟩) hHeld ?_
  try simp only [Act.put, List.setIfInBounds_toArray, List.set_cons_zero, List.set_cons_succ]
  refine take_x 7 (.agg #[.int .i64 a.st, .int .i64 a.pa, .bool a.ta, .int .i64 a.ps, .int .i64 a.pu, .bool a.sp, .bool a.pd, .int .i64 b.st, .int .i64 b.pa, .bool b.ta, .int .i64 b.ps, .int .i64 b.pu, .bool b.sp, .bool b.pd]) rfl (by kernel_rfl) (by kernel_rfl) (by kernel_rfl) (fun _ _ _ h => h) (Or.inl ⟨by rfl, fun W hW => by go_simp⟩) hHeld ?_
  try simp only [Act.put, List.setIfInBounds_toArray, List.set_cons_zero, List.set_cons_succ]
  refine take_x 8 (.bool ok) rfl (by kernel_rfl) (by kernel_rfl) (by kernel_rfl) (fun _ _ _ h => h) (Or.inl ⟨by rfl, fun W hW => by go_simp⟩) hHeld ?_
  try simp only [Act.put, List.setIfInBounds_toArray, List.set_cons_zero, List.set_cons_succ]
  refine one_x 9 rfl (by kernel_rfl) (fun K hK => ?_)
  go_simp
  refine hK.out _ _ (hH.alloc _).drew (fun hHeld => ?_)
  clear hK K
  refine one_x 10 rfl (by kernel_rfl) (fun K hK => ?_)
  rw [if_pos (by rfl)]
  refine wp_run_store 69 _ _ rfl (.pointer (some ⟨w1.heap.size + 1, 0, none⟩)) (.agg #[.int .i64 a.st, .int .i64 a.pa, .bool a.ta, .int .i64 a.ps, .int .i64 a.pu, .bool a.sp, .bool a.pd, .int .i64 b.st, .int .i64 b.pa, .bool b.ta, .int .i64 b.ps, .int .i64 b.pu, .bool b.sp, .bool b.pd]) ((w1.alloc (.cells kp 65)).alloc (.cells #[.int .i64 a.st, .int .i64 a.pa, .bool a.ta, .int .i64 a.ps, .int .i64 a.pu, .bool a.sp, .bool a.pd, .int .i64 b.st, .int .i64 b.pa, .bool b.ta, .int .i64 b.ps, .int .i64 b.pu, .bool b.sp, .bool b.pd] 69)).drew rfl rfl (storeAt_new_drew (by simp) 14 info69 rfl rfl (pair_one a b)) ?_
  simp only [Act.put]
  refine hK.out _ _ (hH.alloc _).drew (fun hHeld => ?_)
  clear hK K
  refine take_x 11 (.bool ok) rfl (by kernel_rfl) (by kernel_rfl) (by kernel_rfl) (fun _ _ _ h => h) (Or.inl ⟨by rfl, fun W hW => by rfl⟩) hHeld ?_
  try simp only [Act.put, List.setIfInBounds_toArray, List.set_cons_zero, List.set_cons_succ]
  refine wpAnyH_done (by kernel_rfl) ?_ _
  clear hHeld
  have HRow : Hid (((w1.alloc (.cells kp 65)).alloc (.cells #[.int .i64 a.st, .int .i64 a.pa, .bool a.ta, .int .i64 a.ps, .int .i64 a.pu, .bool a.sp, .bool a.pd, .int .i64 b.st, .int .i64 b.pa, .bool b.ta, .int .i64 b.ps, .int .i64 b.pu, .bool b.sp, .bool b.pd] 69)).drew.heap[w1.heap.size + 1]? = some (.cells #[.int .i64 a.st, .int .i64 a.pa, .bool a.ta, .int .i64 a.ps, .int .i64 a.pu, .bool a.sp, .bool a.pd, .int .i64 b.st, .int .i64 b.pa, .bool b.ta, .int .i64 b.ps, .int .i64 b.pu, .bool b.sp, .bool b.pd] 69 (0, 0))) := (by show ((w1.alloc _).alloc _).heap[w1.heap.size + 1]? = _; rw [show w1.heap.size + 1 = (w1.alloc (.cells kp 65)).heap.size by simp]; exact heap_alloc_last _ _)
  clear hH
  go_wp2_with (first
    | (refine wpList_load_x 37 (.pointer (some ⟨w1.heap.size + 1, 7, none⟩)) (.agg #[.int .i64 b.st, .int .i64 b.pa, .bool b.ta, .int .i64 b.ps, .int .i64 b.pu, .bool b.sp, .bool b.pd]) rfl (load37_at b (range_7 a b HRow.out)) ?_)
    | (refine wpList_store_x 37 (.pointer (some ⟨w1.heap.size + 1 + 1, 0, none⟩)) (.agg #[.int .i64 b.st, .int .i64 b.pa, .bool b.ta, .int .i64 b.ps, .int .i64 b.pu, .bool b.sp, .bool b.pd]) (((w1.alloc (.cells kp 65)).alloc (.cells #[.int .i64 a.st, .int .i64 a.pa, .bool a.ta, .int .i64 a.ps, .int .i64 a.pu, .bool a.sp, .bool a.pd, .int .i64 b.st, .int .i64 b.pa, .bool b.ta, .int .i64 b.ps, .int .i64 b.pu, .bool b.sp, .bool b.pd] 69)).alloc (.cells #[.int .i64 b.st, .int .i64 b.pa, .bool b.ta, .int .i64 b.ps, .int .i64 b.pu, .bool b.sp, .bool b.pd] 37)).drew rfl rfl (storeAt_new_drew (by simp) 7 info37 rfl rfl (half_one b)) ?_))
  go_quiet (fail)
  go_wp2
  have hb := ((BW1.out.alloc (by omega) (.cells kp 65)).alloc (by simp; omega) (.cells #[.int .i64 a.st, .int .i64 a.pa, .bool a.ta, .int .i64 a.ps, .int .i64 a.pu, .bool a.sp, .bool a.pd, .int .i64 b.st, .int .i64 b.pa, .bool b.ta, .int .i64 b.ps, .int .i64 b.pu, .bool b.sp, .bool b.pd] 69)).alloc (by simp; omega) (.cells #[.int .i64 b.st, .int .i64 b.pa, .bool b.ta, .int .i64 b.ps, .int .i64 b.pu, .bool b.sp, .bool b.pd] 37)
  exact bodyPost_ret (v := .tuple #[.bool ok, .int .i64 b.st, .int .i64 b.pa, .bool b.ta, .int .i64 b.ps, .int .i64 b.pu, .bool b.sp, .bool b.pd]) (by simp [results, Try.results9, go_sem]) rfl ⟨rfl, ⟨hb.os, hb.tape, hb.output, hb.size, hb.block⟩⟩

/-- the half at a place -/
def half (at_ : Int) (x : WS × WS) : WS := if at_ = 0 then x.1 else x.2

theorem windowAt9 (k0 k1 k2 k3 k4 k5 k6 k7 k8 k9 k10 k11 k12 k13 k14 k15 : Int) (n : Int) (hn : 0 ≤ n) (hn' : n ≤ 255) (o : Option (WS × WS)) (g : WS) (ok : Bool) (B M : Nat) (l : Lit) (w : World)
    (hK : keyOf Try.prog 65 (.agg #[.int .u8 k0, .int .u8 k1, .int .u8 k2, .int .u8 k3, .int .u8 k4, .int .u8 k5, .int .u8 k6, .int .u8 k7, .int .u8 k8, .int .u8 k9, .int .u8 k10, .int .u8 k11, .int .u8 k12, .int .u8 k13, .int .u8 k14, .int .u8 k15, .int .u8 (n / 2)]) = some l) (hc : w.cell? ⟨B, 2, none⟩ = some (.map (some M))) (hA : At (.agg #[.int .u8 k0, .int .u8 k1, .int .u8 k2, .int .u8 k3, .int .u8 k4, .int .u8 k5, .int .u8 k6, .int .u8 k7, .int .u8 k8, .int .u8 k9, .int .u8 k10, .int .u8 k11, .int .u8 k12, .int .u8 k13, .int .u8 k14, .int .u8 k15, .int .u8 (n / 2)]) M w (o.map pairV)) (hg : g = half (n % 2) (o.getD (.zero, .zero))) (hok : ok = o.isSome) :
    Calls Try.prog 9 #[.pointer (some ⟨B, 0, none⟩), .agg #[.int .u8 k0, .int .u8 k1, .int .u8 k2, .int .u8 k3, .int .u8 k4, .int .u8 k5, .int .u8 k6, .int .u8 k7, .int .u8 k8, .int .u8 k9, .int .u8 k10, .int .u8 k11, .int .u8 k12, .int .u8 k13, .int .u8 k14, .int .u8 k15], .int .u8 n] w fun e w' => e = .returned (.tuple #[.bool ok, .int .i64 g.st, .int .i64 g.pa, .bool g.ta, .int .i64 g.ps, .int .i64 g.pu, .bool g.sp, .bool g.pd]) ∧ Below w.heap.size w w' := by
  subst hg hok
  rcases (show n % 2 = 0 ∨ n % 2 = 1 by omega) with h | h
  · rw [h]
    exact windowAt_0 k0 k1 k2 k3 k4 k5 k6 k7 k8 k9 k10 k11 k12 k13 k14 k15 n hn hn' h (o.getD (.zero, .zero)).1 (o.getD (.zero, .zero)).2 o.isSome B M (o.map pairV) w hc hA (fun W hW => look_any hK o hW true)
  · rw [h]
    exact windowAt_1 k0 k1 k2 k3 k4 k5 k6 k7 k8 k9 k10 k11 k12 k13 k14 k15 n hn hn' h (o.getD (.zero, .zero)).1 (o.getD (.zero, .zero)).2 o.isSome B M (o.map pairV) w hc hA (fun W hW => look_any hK o hW true)

end Go.Proofs.Qxb6613476a
