import Derived.Test.Qxb6613476aWalksA
import Derived.Test.Qxb6613476aLaws
namespace Go.Proofs.Qxb6613476a
open Go.RowKit
set_option linter.unusedVariables false

set_option maxHeartbeats 2000000 in
set_option maxRecDepth 10000 in
theorem set14_0 (kw kp : Array Value) (hw17 : kw.size = 17) (h17 : kp.size = 17) (h1 : kp.all (·.oneCell') = true) (s a b : WS) (B M : Nat) (st ns : Option Value) (l : Lit) (w : World)
    (hpair : ∀ w, Calls Try.prog 15 #[.agg kw] w fun e w' => e = .returned (.tuple #[.agg kp, .int .i64 0]) ∧ Below w.heap.size w w')
    (hK : keyOf Try.prog 65 (.agg kp) = some l) (hc : w.cell? ⟨B, 2, none⟩ = some (.map (some M))) (hA : At (.agg kp) M w st)
    (hl : ∀ (W : World), At (.agg kp) M W st → (Instr.lookup 39 (.map (some M)) (.agg kp) false).run Try.prog W = .ok (.agg #[.int .i64 a.st, .int .i64 a.pa, .bool a.ta, .int .i64 a.ps, .int .i64 a.pu, .bool a.sp, .bool a.pd, .int .i64 b.st, .int .i64 b.pa, .bool b.ta, .int .i64 b.ps, .int .i64 b.pu, .bool b.sp, .bool b.pd]) W) (hns : ns = if s.keeps || b.keeps then some (.agg #[.int .i64 s.st, .int .i64 s.pa, .bool s.ta, .int .i64 s.ps, .int .i64 s.pu, .bool s.sp, .bool s.pd, .int .i64 b.st, .int .i64 b.pa, .bool b.ta, .int .i64 b.ps, .int .i64 b.pu, .bool b.sp, .bool b.pd]) else .none) :
    Calls Try.prog 14 #[.pointer (some ⟨B, 0, none⟩), .agg kw, .agg #[.int .i64 s.st, .int .i64 s.pa, .bool s.ta, .int .i64 s.ps, .int .i64 s.pu, .bool s.sp, .bool s.pd]] w fun e w' => e = .returned (.tuple #[]) ∧ At (.agg kp) M w' ns ∧ w.grownBy w' (some M) := by
  have HN : Hid (ns = if s.keeps || b.keeps then some (.agg #[.int .i64 s.st, .int .i64 s.pa, .bool s.ta, .int .i64 s.ps, .int .i64 s.pu, .bool s.sp, .bool s.pd, .int .i64 b.st, .int .i64 b.pa, .bool b.ta, .int .i64 b.ps, .int .i64 b.pu, .bool b.sp, .bool b.pd]) else .none) := hns
  clear hns
  have hB := lt_of_cell hc
  have hM := At_lt hA
  obtain ⟨x, hx⟩ : ∃ x, (s.ta || s.pd) = x := ⟨_, rfl⟩
  obtain ⟨y, hy⟩ : ∃ y, (b.ta || b.pd) = y := ⟨_, rfl⟩
  have HX : Hid ((s.ta || s.pd) = x) := hx
  have HY : Hid ((b.ta || b.pd) = y) := hy
  have HL : Hid (∀ (W : World), At (.agg kp) M W st → (Instr.lookup 39 (.map (some M)) (.agg kp) false).run Try.prog W = .ok (.agg #[.int .i64 a.st, .int .i64 a.pa, .bool a.ta, .int .i64 a.ps, .int .i64 a.pu, .bool a.sp, .bool a.pd, .int .i64 b.st, .int .i64 b.pa, .bool b.ta, .int .i64 b.ps, .int .i64 b.pu, .bool b.sp, .bool b.pd]) W) := hl
  have HA : Hid (At (.agg kp) M w st) := hA
  have HK : Hid (keyOf Try.prog 65 (.agg kp) = some l) := hK
  have HP : Hid (∀ w, Calls Try.prog 15 #[.agg kw] w fun e w' => e = .returned (.tuple #[.agg kp, .int .i64 0]) ∧ Below w.heap.size w w') := hpair
  have H1 : Hid (kp.all (·.oneCell') = true) := h1
  have HW : Hid (kw.size = 17) := hw17
  have HS : Hid (kp.size = 17) := h17
  clear hx hy hl hA hK hpair h1 hw17 h17
  go_enter Try.func14, Try.ntmps14
  go_wp2_with (first
    | (go_at_call 15; refine (HP.out _).mono ?_; rintro e w1 ⟨rfl, hb1⟩; have HB : Hid (Below _ _ w1) := hb1; clear hb1)
    | (refine wpList_load_x 63 (.pointer (some ⟨w.heap.size, 0, none⟩)) (.agg kw) rfl (loadAt_row (at_one (w := w)) rfl Try.underlying63 17 info63 HW.out) ?_)
    | (refine wpList_store_x 65 (.pointer (some ⟨w1.heap.size, 0, none⟩)) (.agg kp) (w1.alloc (.cells kp 65)) rfl rfl (storeAt_new 17 info65 rfl HS.out H1.out) ?_))
  have hs1 : w.heap.size + 1 < w1.heap.size := by have := HB.out.size; simp at this; omega
  have hH : Held B M w1.heap.size kp st (w1.alloc (.cells kp 65)) := ⟨(World.cell?_alloc_past _ _ _ (by omega)).trans ((cell_below2 HB.out hB).trans hc), (by rw [At_alloc _ (by omega), At_of_block (block_below2 HB.out hM)]; exact HA.out), heap_alloc_last _ _, (by simp; omega), (by simp)⟩
  have HBox : Hid (w1.heap[w.heap.size + 1]? = some (.cells #[.int .i64 s.st, .int .i64 s.pa, .bool s.ta, .int .i64 s.ps, .int .i64 s.pu, .bool s.sp, .bool s.pd] 37 (0, 0))) := (HB.out.block _ (by simp)).trans (by rw [show w.heap.size + 1 = (w.alloc (.cells kw 63)).heap.size by simp]; exact heap_alloc_last _ _)
  have BW1 : Hid (Below w.heap.size w w1) := (((Below.refl _ _).alloc (Nat.le_refl _) _).alloc (by simp) _).trans (HB.out.mono (by simp; omega))
  clear HA hc
  refine wp_region_held_drew (S := Held B M w1.heap.size kp st) (by kernel_rfl) hH.drew (fun hHeld => ?_)
  refine take_x 0 (.pointer (some ⟨B, 0, none⟩)) rfl (by kernel_rfl) (by kernel_rfl) (by kernel_rfl) (fun _ _ _ h => h) (Or.inl ⟨by rfl, fun W hW => by rfl⟩) hHeld ?_
  try simp only [Act.put, List.setIfInBounds_toArray, List.set_cons_zero, List.set_cons_succ]
  refine take_x 1 (.pointer (some ⟨B, 0, none⟩)) rfl (by kernel_rfl) (by kernel_rfl) (by kernel_rfl) (fun _ _ _ h => h) (Or.inl ⟨by rfl, fun W hW => by rfl⟩) hHeld ?_
  try simp only [Act.put, List.setIfInBounds_toArray, List.set_cons_zero, List.set_cons_succ]
  refine take_x 2 (.pointer (some ⟨B, 2, none⟩)) rfl (by kernel_rfl) (by kernel_rfl) (by kernel_rfl) (fun _ _ _ h => h) (Or.inl ⟨by rfl, fun W hW => by go_simp⟩) hHeld ?_
  try simp only [Act.put, List.setIfInBounds_toArray, List.set_cons_zero, List.set_cons_succ]
  refine take_x 3 (.map (some M)) rfl (by kernel_rfl) (by kernel_rfl) (by kernel_rfl) (fun _ _ _ h => h) (yieldsIf_load (by rfl) 39 _ rfl (.pointer (some ⟨B, 2, none⟩)) _ rfl (fun W hW => loadAt_39 hW.field)) hHeld ?_
  try simp only [Act.put, List.setIfInBounds_toArray, List.set_cons_zero, List.set_cons_succ]
  refine take_x 4 (.agg kp) rfl (by kernel_rfl) (by kernel_rfl) (by kernel_rfl) (fun _ _ _ h => h) (yieldsIf_load (by rfl) 65 _ rfl (.pointer (some ⟨w1.heap.size, 0, none⟩)) _ rfl (fun W hW => loadAt_row hW.row rfl Try.underlying65 17 info65 HS.out)) hHeld ?_
  try simp only [Act.put, List.setIfInBounds_toArray, List.set_cons_zero, List.set_cons_succ]
  refine take_x 5 (.agg #[.int .i64 a.st, .int .i64 a.pa, .bool a.ta, .int .i64 a.ps, .int .i64 a.pu, .bool a.sp, .bool a.pd, .int .i64 b.st, .int .i64 b.pa, .bool b.ta, .int .i64 b.ps, .int .i64 b.pu, .bool b.sp, .bool b.pd]) rfl (by kernel_rfl) (by kernel_rfl) (by kernel_rfl) (fun _ _ _ h => h) (yieldsIf_lookup (by rfl) 39 _ _ false rfl (.map (some M)) (.agg kp) _ rfl rfl (fun W hW => HL.out W hW.map)) hHeld ?_
  try simp only [Act.put, List.setIfInBounds_toArray, List.set_cons_zero, List.set_cons_succ]
  refine one_x 6 rfl (by kernel_rfl) (fun K hK => ?_)
  go_simp
  refine hK.out _ _ (hH.alloc _).drew (fun hHeld => ?_)
  clear hK K
  refine one_x 7 rfl (by kernel_rfl) (fun K hK => ?_)
  rw [if_pos (by rfl)]
  refine wp_run_store 69 _ _ rfl (.pointer (some ⟨w1.heap.size + 1, 0, none⟩)) (.agg #[.int .i64 a.st, .int .i64 a.pa, .bool a.ta, .int .i64 a.ps, .int .i64 a.pu, .bool a.sp, .bool a.pd, .int .i64 b.st, .int .i64 b.pa, .bool b.ta, .int .i64 b.ps, .int .i64 b.pu, .bool b.sp, .bool b.pd]) ((w1.alloc (.cells kp 65)).alloc (.cells #[.int .i64 a.st, .int .i64 a.pa, .bool a.ta, .int .i64 a.ps, .int .i64 a.pu, .bool a.sp, .bool a.pd, .int .i64 b.st, .int .i64 b.pa, .bool b.ta, .int .i64 b.ps, .int .i64 b.pu, .bool b.sp, .bool b.pd] 69)).drew rfl rfl (storeAt_new_drew (by simp) 14 info69 rfl rfl (pair_one a b)) ?_
  simp only [Act.put]
  refine hK.out _ _ (hH.alloc _).drew (fun hHeld => ?_)
  clear hK K
  refine wpAnyH_done (by kernel_rfl) ?_ _
  clear hHeld
  have HR : Hid (Rows3 B M w1.heap.size (w1.heap.size + 1) kp #[.int .i64 s.st, .int .i64 s.pa, .bool s.ta, .int .i64 s.ps, .int .i64 s.pu, .bool s.sp, .bool s.pd, .int .i64 b.st, .int .i64 b.pa, .bool b.ta, .int .i64 b.ps, .int .i64 b.pu, .bool b.sp, .bool b.pd] ((w1.alloc (.cells kp 65)).alloc (.cells #[.int .i64 s.st, .int .i64 s.pa, .bool s.ta, .int .i64 s.ps, .int .i64 s.pu, .bool s.sp, .bool s.pd, .int .i64 b.st, .int .i64 b.pa, .bool b.ta, .int .i64 b.ps, .int .i64 b.pu, .bool b.sp, .bool b.pd] 69)).drew) := ⟨(hH.alloc _).drew.field, (hH.alloc _).drew.row, (by show ((w1.alloc _).alloc _).heap[w1.heap.size + 1]? = _; rw [show w1.heap.size + 1 = (w1.alloc (.cells kp 65)).heap.size by simp]; exact heap_alloc_last _ _)⟩
  have HA3' : Hid (At (.agg kp) M ((w1.alloc (.cells kp 65)).alloc (.cells #[.int .i64 s.st, .int .i64 s.pa, .bool s.ta, .int .i64 s.ps, .int .i64 s.pu, .bool s.sp, .bool s.pd, .int .i64 b.st, .int .i64 b.pa, .bool b.ta, .int .i64 b.ps, .int .i64 b.pu, .bool b.sp, .bool b.pd] 69)).drew st) := (hH.alloc _).drew.map
  have BW3 : Hid (Below w.heap.size w ((w1.alloc (.cells kp 65)).alloc (.cells #[.int .i64 s.st, .int .i64 s.pa, .bool s.ta, .int .i64 s.ps, .int .i64 s.pu, .bool s.sp, .bool s.pd, .int .i64 b.st, .int .i64 b.pa, .bool b.ta, .int .i64 b.ps, .int .i64 b.pu, .bool b.sp, .bool b.pd] 69)).drew) := ((BW1.out.alloc (by omega) _).alloc (by simp; omega) _).drew
  have HZ : Hid (w.heap.size ≤ (((w1.alloc (.cells kp 65)).alloc (.cells #[.int .i64 s.st, .int .i64 s.pa, .bool s.ta, .int .i64 s.ps, .int .i64 s.pu, .bool s.sp, .bool s.pd, .int .i64 b.st, .int .i64 b.pa, .bool b.ta, .int .i64 b.ps, .int .i64 b.pu, .bool b.sp, .bool b.pd] 69)).drew).heap.size) := (by show _ ≤ ((w1.alloc _).alloc _).heap.size; simp; omega)
  have HBox3 : ∀ c, Hid (((w1.alloc (.cells kp 65)).alloc (.cells c 69)).drew.heap[w.heap.size + 1]? = some (.cells #[.int .i64 s.st, .int .i64 s.pa, .bool s.ta, .int .i64 s.ps, .int .i64 s.pu, .bool s.sp, .bool s.pd] 37 (0, 0))) := fun c => ((Below.heap_alloc _ _ _ (by simp; omega)).trans (Below.heap_alloc _ _ _ hs1)).trans HBox.out
  clear hH
  cases x
  · cases y
    · go_wp2_with (first
        | (go_at_call 13; refine (keeps13' _ _ _ _ _ _ _ _ _ (by first | exact HX.out | exact HY.out)).mono ?_; first | (rintro e w2 ⟨rfl, hb2⟩; have HB2 : Hid (Below (((w1.alloc (.cells kp 65)).alloc (.cells #[.int .i64 s.st, .int .i64 s.pa, .bool s.ta, .int .i64 s.ps, .int .i64 s.pu, .bool s.sp, .bool s.pd, .int .i64 b.st, .int .i64 b.pa, .bool b.ta, .int .i64 b.ps, .int .i64 b.pu, .bool b.sp, .bool b.pd] 69)).drew).heap.size (((w1.alloc (.cells kp 65)).alloc (.cells #[.int .i64 s.st, .int .i64 s.pa, .bool s.ta, .int .i64 s.ps, .int .i64 s.pu, .bool s.sp, .bool s.pd, .int .i64 b.st, .int .i64 b.pa, .bool b.ta, .int .i64 b.ps, .int .i64 b.pu, .bool b.sp, .bool b.pd] 69)).drew) w2) := hb2; have HR2 : Hid (Rows3 B M w1.heap.size (w1.heap.size + 1) kp #[.int .i64 s.st, .int .i64 s.pa, .bool s.ta, .int .i64 s.ps, .int .i64 s.pu, .bool s.sp, .bool s.pd, .int .i64 b.st, .int .i64 b.pa, .bool b.ta, .int .i64 b.ps, .int .i64 b.pu, .bool b.sp, .bool b.pd] w2) := HR.out.below hb2; have HA2 : Hid (At (.agg kp) M w2 st) := At_below HA3'.out hb2; clear hb2) | (rintro e w3 ⟨rfl, hb3⟩; have HB3 : Hid (Below w2.heap.size w2 w3) := hb3; have HR3 : Hid (Rows3 B M w1.heap.size (w1.heap.size + 1) kp #[.int .i64 s.st, .int .i64 s.pa, .bool s.ta, .int .i64 s.ps, .int .i64 s.pu, .bool s.sp, .bool s.pd, .int .i64 b.st, .int .i64 b.pa, .bool b.ta, .int .i64 b.ps, .int .i64 b.pu, .bool b.sp, .bool b.pd] w3) := HR2.out.below hb3; have HA3 : Hid (At (.agg kp) M w3 st) := At_below HA2.out hb3; have HZ2 : Hid (w.heap.size ≤ w2.heap.size) := (Nat.le_trans HZ.out HB2.out.size); clear hb3))
        | (refine wpList_load_x 37 (.pointer (some ⟨w.heap.size + 1, 0, none⟩)) (.agg #[.int .i64 s.st, .int .i64 s.pa, .bool s.ta, .int .i64 s.ps, .int .i64 s.pu, .bool s.sp, .bool s.pd]) rfl (loadAt_row (HBox3 _).out rfl Try.underlying37 7 info37 rfl) ?_)
        | (refine wpList_store_x 37 (.pointer (some ⟨w1.heap.size + 1, 0, none⟩)) (.agg #[.int .i64 s.st, .int .i64 s.pa, .bool s.ta, .int .i64 s.ps, .int .i64 s.pu, .bool s.sp, .bool s.pd]) ((w1.alloc (.cells kp 65)).alloc (.cells #[.int .i64 s.st, .int .i64 s.pa, .bool s.ta, .int .i64 s.ps, .int .i64 s.pu, .bool s.sp, .bool s.pd, .int .i64 b.st, .int .i64 b.pa, .bool b.ta, .int .i64 b.ps, .int .i64 b.pu, .bool b.sp, .bool b.pd] 69)).drew rfl rfl (store37_0 (by simp) s a b) ?_)
        | (refine wpList_load_x 37 (.pointer (some ⟨w1.heap.size + 1, 0, none⟩)) (.agg #[.int .i64 s.st, .int .i64 s.pa, .bool s.ta, .int .i64 s.ps, .int .i64 s.pu, .bool s.sp, .bool s.pd]) rfl (load37_at s (range_0 s b HR.out.row8)) ?_)
        | (refine wpList_load_gx 37 (.pointer (some ⟨w1.heap.size + 1, 7, none⟩)) (.agg #[.int .i64 b.st, .int .i64 b.pa, .bool b.ta, .int .i64 b.ps, .int .i64 b.pu, .bool b.sp, .bool b.pd]) rfl rfl (load37_at b (range_7 s b HR2.out.row8)) ?_))
      have hR : Rows3 B M w1.heap.size (w1.heap.size + 1) kp #[.int .i64 s.st, .int .i64 s.pa, .bool s.ta, .int .i64 s.ps, .int .i64 s.pu, .bool s.sp, .bool s.pd, .int .i64 b.st, .int .i64 b.pa, .bool b.ta, .int .i64 b.ps, .int .i64 b.pu, .bool b.sp, .bool b.pd] w3 := HR3.out
      have hAt : At (.agg kp) M w3 st := HA3.out
      refine wp_region_held_drew (S := Rows3 B M w1.heap.size (w1.heap.size + 1) kp #[.int .i64 s.st, .int .i64 s.pa, .bool s.ta, .int .i64 s.ps, .int .i64 s.pu, .bool s.sp, .bool s.pd, .int .i64 b.st, .int .i64 b.pa, .bool b.ta, .int .i64 b.ps, .int .i64 b.pu, .bool b.sp, .bool b.pd]) (by kernel_rfl) hR.drew (fun hHeld => ?_)
      refine take_x 0 (.pointer (some ⟨B, 0, none⟩)) rfl (by kernel_rfl) (by kernel_rfl) (by kernel_rfl) (fun _ _ _ h => h) (Or.inl ⟨by rfl, fun W hW => by rfl⟩) hHeld ?_
      try simp only [Act.put, List.setIfInBounds_toArray, List.set_cons_zero, List.set_cons_succ]
      refine take_x 1 (.pointer (some ⟨B, 0, none⟩)) rfl (by kernel_rfl) (by kernel_rfl) (by kernel_rfl) (fun _ _ _ h => h) (Or.inl ⟨by rfl, fun W hW => by rfl⟩) hHeld ?_
      try simp only [Act.put, List.setIfInBounds_toArray, List.set_cons_zero, List.set_cons_succ]
      refine take_x 2 (.pointer (some ⟨B, 2, none⟩)) rfl (by kernel_rfl) (by kernel_rfl) (by kernel_rfl) (fun _ _ _ h => h) (Or.inl ⟨by rfl, fun W hW => by go_simp⟩) hHeld ?_
      try simp only [Act.put, List.setIfInBounds_toArray, List.set_cons_zero, List.set_cons_succ]
      refine take_x 3 (.map (some M)) rfl (by kernel_rfl) (by kernel_rfl) (by kernel_rfl) (fun _ _ _ h => h) (yieldsIf_load (by rfl) 39 _ rfl (.pointer (some ⟨B, 2, none⟩)) _ rfl (fun W hW => loadAt_39 hW.field)) hHeld ?_
      try simp only [Act.put, List.setIfInBounds_toArray, List.set_cons_zero, List.set_cons_succ]
      refine take_x 4 (.agg kp) rfl (by kernel_rfl) (by kernel_rfl) (by kernel_rfl) (fun _ _ _ h => h) (yieldsIf_load (by rfl) 65 _ rfl (.pointer (some ⟨w1.heap.size, 0, none⟩)) _ rfl (fun W hW => loadAt_row hW.row6 rfl Try.underlying65 17 info65 HS.out)) hHeld ?_
      try simp only [Act.put, List.setIfInBounds_toArray, List.set_cons_zero, List.set_cons_succ]
      obtain ⟨hrun, hAt', hgr⟩ := drop_any HK.out (w := w3.drew) (M := M) (s := st) (by rw [At_drew]; exact hAt) 0
      refine one_x 5 rfl (by kernel_rfl) (fun K hK => ?_)
      rw [if_pos (by rfl)]
      refine wp_run_delete _ _ 39 65 rfl (.map (some M)) (.agg kp) _ rfl rfl hrun ?_
      simp only [Act.put]
      refine hK.out _ _ (hR.drew.turned (by rw [At_drew]; exact hAt) hgr) (fun hHeld => ?_)
      clear hK K
      refine wpAnyH_done (by kernel_rfl) ?_ _
      go_wp2
      refine bodyPost_ret (v := .tuple #[]) (by simp [results, Try.results14, go_sem]) rfl ?_
      refine ⟨rfl, ?_, grown_trans (grown_of_below M (((BW3.out.trans (HB2.out.mono HZ.out)).trans (HB3.out.mono HZ2.out)).drew)) hgr⟩
      have e : (s.keeps || b.keeps) = false := by unfold WS.keeps; rw [HX.out, HY.out]; rfl
      rw [HN.out, e]; exact hAt'
    · go_wp2_with (first
        | (go_at_call 13; refine (keeps13' _ _ _ _ _ _ _ _ _ (by first | exact HX.out | exact HY.out)).mono ?_; first | (rintro e w2 ⟨rfl, hb2⟩; have HB2 : Hid (Below (((w1.alloc (.cells kp 65)).alloc (.cells #[.int .i64 s.st, .int .i64 s.pa, .bool s.ta, .int .i64 s.ps, .int .i64 s.pu, .bool s.sp, .bool s.pd, .int .i64 b.st, .int .i64 b.pa, .bool b.ta, .int .i64 b.ps, .int .i64 b.pu, .bool b.sp, .bool b.pd] 69)).drew).heap.size (((w1.alloc (.cells kp 65)).alloc (.cells #[.int .i64 s.st, .int .i64 s.pa, .bool s.ta, .int .i64 s.ps, .int .i64 s.pu, .bool s.sp, .bool s.pd, .int .i64 b.st, .int .i64 b.pa, .bool b.ta, .int .i64 b.ps, .int .i64 b.pu, .bool b.sp, .bool b.pd] 69)).drew) w2) := hb2; have HR2 : Hid (Rows3 B M w1.heap.size (w1.heap.size + 1) kp #[.int .i64 s.st, .int .i64 s.pa, .bool s.ta, .int .i64 s.ps, .int .i64 s.pu, .bool s.sp, .bool s.pd, .int .i64 b.st, .int .i64 b.pa, .bool b.ta, .int .i64 b.ps, .int .i64 b.pu, .bool b.sp, .bool b.pd] w2) := HR.out.below hb2; have HA2 : Hid (At (.agg kp) M w2 st) := At_below HA3'.out hb2; clear hb2) | (rintro e w3 ⟨rfl, hb3⟩; have HB3 : Hid (Below w2.heap.size w2 w3) := hb3; have HR3 : Hid (Rows3 B M w1.heap.size (w1.heap.size + 1) kp #[.int .i64 s.st, .int .i64 s.pa, .bool s.ta, .int .i64 s.ps, .int .i64 s.pu, .bool s.sp, .bool s.pd, .int .i64 b.st, .int .i64 b.pa, .bool b.ta, .int .i64 b.ps, .int .i64 b.pu, .bool b.sp, .bool b.pd] w3) := HR2.out.below hb3; have HA3 : Hid (At (.agg kp) M w3 st) := At_below HA2.out hb3; have HZ2 : Hid (w.heap.size ≤ w2.heap.size) := (Nat.le_trans HZ.out HB2.out.size); clear hb3))
        | (refine wpList_load_x 37 (.pointer (some ⟨w.heap.size + 1, 0, none⟩)) (.agg #[.int .i64 s.st, .int .i64 s.pa, .bool s.ta, .int .i64 s.ps, .int .i64 s.pu, .bool s.sp, .bool s.pd]) rfl (loadAt_row (HBox3 _).out rfl Try.underlying37 7 info37 rfl) ?_)
        | (refine wpList_store_x 37 (.pointer (some ⟨w1.heap.size + 1, 0, none⟩)) (.agg #[.int .i64 s.st, .int .i64 s.pa, .bool s.ta, .int .i64 s.ps, .int .i64 s.pu, .bool s.sp, .bool s.pd]) ((w1.alloc (.cells kp 65)).alloc (.cells #[.int .i64 s.st, .int .i64 s.pa, .bool s.ta, .int .i64 s.ps, .int .i64 s.pu, .bool s.sp, .bool s.pd, .int .i64 b.st, .int .i64 b.pa, .bool b.ta, .int .i64 b.ps, .int .i64 b.pu, .bool b.sp, .bool b.pd] 69)).drew rfl rfl (store37_0 (by simp) s a b) ?_)
        | (refine wpList_load_x 37 (.pointer (some ⟨w1.heap.size + 1, 0, none⟩)) (.agg #[.int .i64 s.st, .int .i64 s.pa, .bool s.ta, .int .i64 s.ps, .int .i64 s.pu, .bool s.sp, .bool s.pd]) rfl (load37_at s (range_0 s b HR.out.row8)) ?_)
        | (refine wpList_load_gx 37 (.pointer (some ⟨w1.heap.size + 1, 7, none⟩)) (.agg #[.int .i64 b.st, .int .i64 b.pa, .bool b.ta, .int .i64 b.ps, .int .i64 b.pu, .bool b.sp, .bool b.pd]) rfl rfl (load37_at b (range_7 s b HR2.out.row8)) ?_))
      have hR : Rows3 B M w1.heap.size (w1.heap.size + 1) kp #[.int .i64 s.st, .int .i64 s.pa, .bool s.ta, .int .i64 s.ps, .int .i64 s.pu, .bool s.sp, .bool s.pd, .int .i64 b.st, .int .i64 b.pa, .bool b.ta, .int .i64 b.ps, .int .i64 b.pu, .bool b.sp, .bool b.pd] w3 := HR3.out
      have hAt : At (.agg kp) M w3 st := HA3.out
      refine wp_region_held_drew (S := Rows3 B M w1.heap.size (w1.heap.size + 1) kp #[.int .i64 s.st, .int .i64 s.pa, .bool s.ta, .int .i64 s.ps, .int .i64 s.pu, .bool s.sp, .bool s.pd, .int .i64 b.st, .int .i64 b.pa, .bool b.ta, .int .i64 b.ps, .int .i64 b.pu, .bool b.sp, .bool b.pd]) (by kernel_rfl) hR.drew (fun hHeld => ?_)
      refine take_x 0 (.pointer (some ⟨B, 0, none⟩)) rfl (by kernel_rfl) (by kernel_rfl) (by kernel_rfl) (fun _ _ _ h => h) (Or.inl ⟨by rfl, fun W hW => by rfl⟩) hHeld ?_
      try simp only [Act.put, List.setIfInBounds_toArray, List.set_cons_zero, List.set_cons_succ]
      refine take_x 1 (.pointer (some ⟨B, 0, none⟩)) rfl (by kernel_rfl) (by kernel_rfl) (by kernel_rfl) (fun _ _ _ h => h) (Or.inl ⟨by rfl, fun W hW => by rfl⟩) hHeld ?_
      try simp only [Act.put, List.setIfInBounds_toArray, List.set_cons_zero, List.set_cons_succ]
      refine take_x 2 (.pointer (some ⟨B, 2, none⟩)) rfl (by kernel_rfl) (by kernel_rfl) (by kernel_rfl) (fun _ _ _ h => h) (Or.inl ⟨by rfl, fun W hW => by go_simp⟩) hHeld ?_
      try simp only [Act.put, List.setIfInBounds_toArray, List.set_cons_zero, List.set_cons_succ]
      refine take_x 3 (.map (some M)) rfl (by kernel_rfl) (by kernel_rfl) (by kernel_rfl) (fun _ _ _ h => h) (yieldsIf_load (by rfl) 39 _ rfl (.pointer (some ⟨B, 2, none⟩)) _ rfl (fun W hW => loadAt_39 hW.field)) hHeld ?_
      try simp only [Act.put, List.setIfInBounds_toArray, List.set_cons_zero, List.set_cons_succ]
      refine take_x 4 (.agg kp) rfl (by kernel_rfl) (by kernel_rfl) (by kernel_rfl) (fun _ _ _ h => h) (yieldsIf_load (by rfl) 65 _ rfl (.pointer (some ⟨w1.heap.size, 0, none⟩)) _ rfl (fun W hW => loadAt_row hW.row6 rfl Try.underlying65 17 info65 HS.out)) hHeld ?_
      try simp only [Act.put, List.setIfInBounds_toArray, List.set_cons_zero, List.set_cons_succ]
      refine take_x 5 (.agg #[.int .i64 s.st, .int .i64 s.pa, .bool s.ta, .int .i64 s.ps, .int .i64 s.pu, .bool s.sp, .bool s.pd, .int .i64 b.st, .int .i64 b.pa, .bool b.ta, .int .i64 b.ps, .int .i64 b.pu, .bool b.sp, .bool b.pd]) rfl (by kernel_rfl) (by kernel_rfl) (by kernel_rfl) (fun _ _ _ h => h) (yieldsIf_load (by rfl) 69 _ rfl (.pointer (some ⟨w1.heap.size + 1, 0, none⟩)) _ rfl (fun W hW => loadAt_row hW.row8 rfl Try.underlying69 14 info69 rfl)) hHeld ?_
      try simp only [Act.put, List.setIfInBounds_toArray, List.set_cons_zero, List.set_cons_succ]
      obtain ⟨hrun, hAt', hgr⟩ := store_any HK.out (w := w3.drew) (M := M) (s := st) (by rw [At_drew]; exact hAt) (.agg #[.int .i64 s.st, .int .i64 s.pa, .bool s.ta, .int .i64 s.ps, .int .i64 s.pu, .bool s.sp, .bool s.pd, .int .i64 b.st, .int .i64 b.pa, .bool b.ta, .int .i64 b.ps, .int .i64 b.pu, .bool b.sp, .bool b.pd])
      refine one_x 6 rfl (by kernel_rfl) (fun K hK => ?_)
      rw [if_pos (by rfl)]
      refine wp_run_mapUpdate 39 _ _ _ rfl (.map (some M)) (.agg kp) (.agg #[.int .i64 s.st, .int .i64 s.pa, .bool s.ta, .int .i64 s.ps, .int .i64 s.pu, .bool s.sp, .bool s.pd, .int .i64 b.st, .int .i64 b.pa, .bool b.ta, .int .i64 b.ps, .int .i64 b.pu, .bool b.sp, .bool b.pd]) _ rfl rfl rfl hrun ?_
      simp only [Act.put]
      refine hK.out _ _ (hR.drew.turned (by rw [At_drew]; exact hAt) hgr) (fun hHeld => ?_)
      clear hK K
      refine wpAnyH_done (by kernel_rfl) ?_ _
      go_wp2
      go_end0
      refine ⟨rfl, ?_, grown_trans (grown_of_below M (((BW3.out.trans (HB2.out.mono HZ.out)).trans (HB3.out.mono HZ2.out)).drew)) hgr⟩
      have e : (s.keeps || b.keeps) = true := by unfold WS.keeps; rw [HX.out, HY.out]; rfl
      rw [HN.out, e]; exact hAt'
  · go_wp2_with (first
      | (go_at_call 13; refine (keeps13' _ _ _ _ _ _ _ _ _ (by first | exact HX.out | exact HY.out)).mono ?_; first | (rintro e w2 ⟨rfl, hb2⟩; have HB2 : Hid (Below (((w1.alloc (.cells kp 65)).alloc (.cells #[.int .i64 s.st, .int .i64 s.pa, .bool s.ta, .int .i64 s.ps, .int .i64 s.pu, .bool s.sp, .bool s.pd, .int .i64 b.st, .int .i64 b.pa, .bool b.ta, .int .i64 b.ps, .int .i64 b.pu, .bool b.sp, .bool b.pd] 69)).drew).heap.size (((w1.alloc (.cells kp 65)).alloc (.cells #[.int .i64 s.st, .int .i64 s.pa, .bool s.ta, .int .i64 s.ps, .int .i64 s.pu, .bool s.sp, .bool s.pd, .int .i64 b.st, .int .i64 b.pa, .bool b.ta, .int .i64 b.ps, .int .i64 b.pu, .bool b.sp, .bool b.pd] 69)).drew) w2) := hb2; have HR2 : Hid (Rows3 B M w1.heap.size (w1.heap.size + 1) kp #[.int .i64 s.st, .int .i64 s.pa, .bool s.ta, .int .i64 s.ps, .int .i64 s.pu, .bool s.sp, .bool s.pd, .int .i64 b.st, .int .i64 b.pa, .bool b.ta, .int .i64 b.ps, .int .i64 b.pu, .bool b.sp, .bool b.pd] w2) := HR.out.below hb2; have HA2 : Hid (At (.agg kp) M w2 st) := At_below HA3'.out hb2; clear hb2) | (rintro e w3 ⟨rfl, hb3⟩; have HB3 : Hid (Below w2.heap.size w2 w3) := hb3; have HR3 : Hid (Rows3 B M w1.heap.size (w1.heap.size + 1) kp #[.int .i64 s.st, .int .i64 s.pa, .bool s.ta, .int .i64 s.ps, .int .i64 s.pu, .bool s.sp, .bool s.pd, .int .i64 b.st, .int .i64 b.pa, .bool b.ta, .int .i64 b.ps, .int .i64 b.pu, .bool b.sp, .bool b.pd] w3) := HR2.out.below hb3; have HA3 : Hid (At (.agg kp) M w3 st) := At_below HA2.out hb3; have HZ2 : Hid (w.heap.size ≤ w2.heap.size) := (Nat.le_trans HZ.out HB2.out.size); clear hb3))
      | (refine wpList_load_x 37 (.pointer (some ⟨w.heap.size + 1, 0, none⟩)) (.agg #[.int .i64 s.st, .int .i64 s.pa, .bool s.ta, .int .i64 s.ps, .int .i64 s.pu, .bool s.sp, .bool s.pd]) rfl (loadAt_row (HBox3 _).out rfl Try.underlying37 7 info37 rfl) ?_)
      | (refine wpList_store_x 37 (.pointer (some ⟨w1.heap.size + 1, 0, none⟩)) (.agg #[.int .i64 s.st, .int .i64 s.pa, .bool s.ta, .int .i64 s.ps, .int .i64 s.pu, .bool s.sp, .bool s.pd]) ((w1.alloc (.cells kp 65)).alloc (.cells #[.int .i64 s.st, .int .i64 s.pa, .bool s.ta, .int .i64 s.ps, .int .i64 s.pu, .bool s.sp, .bool s.pd, .int .i64 b.st, .int .i64 b.pa, .bool b.ta, .int .i64 b.ps, .int .i64 b.pu, .bool b.sp, .bool b.pd] 69)).drew rfl rfl (store37_0 (by simp) s a b) ?_)
      | (refine wpList_load_x 37 (.pointer (some ⟨w1.heap.size + 1, 0, none⟩)) (.agg #[.int .i64 s.st, .int .i64 s.pa, .bool s.ta, .int .i64 s.ps, .int .i64 s.pu, .bool s.sp, .bool s.pd]) rfl (load37_at s (range_0 s b HR.out.row8)) ?_))
    have hR : Rows3 B M w1.heap.size (w1.heap.size + 1) kp #[.int .i64 s.st, .int .i64 s.pa, .bool s.ta, .int .i64 s.ps, .int .i64 s.pu, .bool s.sp, .bool s.pd, .int .i64 b.st, .int .i64 b.pa, .bool b.ta, .int .i64 b.ps, .int .i64 b.pu, .bool b.sp, .bool b.pd] w2 := HR2.out
    have hAt : At (.agg kp) M w2 st := HA2.out
    refine wp_region_held_drew (S := Rows3 B M w1.heap.size (w1.heap.size + 1) kp #[.int .i64 s.st, .int .i64 s.pa, .bool s.ta, .int .i64 s.ps, .int .i64 s.pu, .bool s.sp, .bool s.pd, .int .i64 b.st, .int .i64 b.pa, .bool b.ta, .int .i64 b.ps, .int .i64 b.pu, .bool b.sp, .bool b.pd]) (by kernel_rfl) hR.drew (fun hHeld => ?_)
    refine take_x 0 (.pointer (some ⟨B, 0, none⟩)) rfl (by kernel_rfl) (by kernel_rfl) (by kernel_rfl) (fun _ _ _ h => h) (Or.inl ⟨by rfl, fun W hW => by rfl⟩) hHeld ?_
    try simp only [Act.put, List.setIfInBounds_toArray, List.set_cons_zero, List.set_cons_succ]
    refine take_x 1 (.pointer (some ⟨B, 0, none⟩)) rfl (by kernel_rfl) (by kernel_rfl) (by kernel_rfl) (fun _ _ _ h => h) (Or.inl ⟨by rfl, fun W hW => by rfl⟩) hHeld ?_
    try simp only [Act.put, List.setIfInBounds_toArray, List.set_cons_zero, List.set_cons_succ]
    refine take_x 2 (.pointer (some ⟨B, 2, none⟩)) rfl (by kernel_rfl) (by kernel_rfl) (by kernel_rfl) (fun _ _ _ h => h) (Or.inl ⟨by rfl, fun W hW => by go_simp⟩) hHeld ?_
    try simp only [Act.put, List.setIfInBounds_toArray, List.set_cons_zero, List.set_cons_succ]
    refine take_x 3 (.map (some M)) rfl (by kernel_rfl) (by kernel_rfl) (by kernel_rfl) (fun _ _ _ h => h) (yieldsIf_load (by rfl) 39 _ rfl (.pointer (some ⟨B, 2, none⟩)) _ rfl (fun W hW => loadAt_39 hW.field)) hHeld ?_
    try simp only [Act.put, List.setIfInBounds_toArray, List.set_cons_zero, List.set_cons_succ]
    refine take_x 4 (.agg kp) rfl (by kernel_rfl) (by kernel_rfl) (by kernel_rfl) (fun _ _ _ h => h) (yieldsIf_load (by rfl) 65 _ rfl (.pointer (some ⟨w1.heap.size, 0, none⟩)) _ rfl (fun W hW => loadAt_row hW.row6 rfl Try.underlying65 17 info65 HS.out)) hHeld ?_
    try simp only [Act.put, List.setIfInBounds_toArray, List.set_cons_zero, List.set_cons_succ]
    refine take_x 5 (.agg #[.int .i64 s.st, .int .i64 s.pa, .bool s.ta, .int .i64 s.ps, .int .i64 s.pu, .bool s.sp, .bool s.pd, .int .i64 b.st, .int .i64 b.pa, .bool b.ta, .int .i64 b.ps, .int .i64 b.pu, .bool b.sp, .bool b.pd]) rfl (by kernel_rfl) (by kernel_rfl) (by kernel_rfl) (fun _ _ _ h => h) (yieldsIf_load (by rfl) 69 _ rfl (.pointer (some ⟨w1.heap.size + 1, 0, none⟩)) _ rfl (fun W hW => loadAt_row hW.row8 rfl Try.underlying69 14 info69 rfl)) hHeld ?_
    try simp only [Act.put, List.setIfInBounds_toArray, List.set_cons_zero, List.set_cons_succ]
    obtain ⟨hrun, hAt', hgr⟩ := store_any HK.out (w := w2.drew) (M := M) (s := st) (by rw [At_drew]; exact hAt) (.agg #[.int .i64 s.st, .int .i64 s.pa, .bool s.ta, .int .i64 s.ps, .int .i64 s.pu, .bool s.sp, .bool s.pd, .int .i64 b.st, .int .i64 b.pa, .bool b.ta, .int .i64 b.ps, .int .i64 b.pu, .bool b.sp, .bool b.pd])
    refine one_x 6 rfl (by kernel_rfl) (fun K hK => ?_)
    rw [if_pos (by rfl)]
    refine wp_run_mapUpdate 39 _ _ _ rfl (.map (some M)) (.agg kp) (.agg #[.int .i64 s.st, .int .i64 s.pa, .bool s.ta, .int .i64 s.ps, .int .i64 s.pu, .bool s.sp, .bool s.pd, .int .i64 b.st, .int .i64 b.pa, .bool b.ta, .int .i64 b.ps, .int .i64 b.pu, .bool b.sp, .bool b.pd]) _ rfl rfl rfl hrun ?_
    simp only [Act.put]
    refine hK.out _ _ (hR.drew.turned (by rw [At_drew]; exact hAt) hgr) (fun hHeld => ?_)
    clear hK K
    refine wpAnyH_done (by kernel_rfl) ?_ _
    go_wp2
    go_end0
    refine ⟨rfl, ?_, grown_trans (grown_of_below M ((BW3.out.trans (HB2.out.mono HZ.out)).drew)) hgr⟩
    have e : (s.keeps || b.keeps) = true := by unfold WS.keeps; rw [HX.out]; rfl
    rw [HN.out, e]; exact hAt'

end Go.Proofs.Qxb6613476a
