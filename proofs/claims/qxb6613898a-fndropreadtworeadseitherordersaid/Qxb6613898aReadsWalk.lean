import Derived.Test.Qxb6613898aReads
namespace Go.Proofs.Qxb6613898a
open Go.RowKit
set_option linter.unusedVariables false

theorem results_tmp4 {fn : Func} {t u v x : Tmp} (h : fn.results = #[.tmp t, .tmp u, .tmp v, .tmp x]) (tmps : Array Value) (P : Program) (w : World) :
    (results fn tmps).run P w = .ok (.tuple #[tmps.getD t undef, tmps.getD u undef, tmps.getD v undef, tmps.getD x undef]) w := by
  simp [results, h]

set_option maxRecDepth 20000 in
set_option maxHeartbeats 2000000 in
theorem reads11 (w : World) (J N : Nat) (vA vS vD : Value) (A S : List Int) (es : List Ent) (h : Node w J N vA vS vA vS vD A S es) :
    Calls Try.prog 11 #[.pointer (some ⟨N, 0, none⟩)] w fun e w' => ∃ vT vR, e = .returned (.tuple #[vA, vS, vT, vR]) ∧ Rs w es es.length es.length vT vR w' := by
  obtain ⟨aD, capD, hvD, haD⟩ : ∃ aD capD, vD = .slice aD es.length capD ∧ (∀ k (hk : k < es.length), ∃ bd, aD = some ⟨bd, 0, none⟩ ∧ w.cell? ⟨bd, k * 2, none⟩ = some (.int .u64 es[k].at_) ∧ w.cell? ⟨bd, k * 2 + 1, none⟩ = some es[k].v) := by
    rcases h.due with ⟨rfl, rfl⟩ | ⟨bd, cap, dc, rfl, r1, r2, r3, r4⟩
    · exact ⟨none, 0, rfl, fun k h => absurd h (Nat.not_lt_zero _)⟩
    · exact ⟨_, cap, rfl, fun k hk => ⟨bd, rfl, (cell_row r1).trans (r4 k hk).1, (cell_row r1).trans (r4 k hk).2⟩⟩
  subst hvD
  have HD : Hid (∀ k (hk : k < es.length), ∃ bd, aD = some ⟨bd, 0, none⟩ ∧ w.cell? ⟨bd, k * 2, none⟩ = some (.int .u64 es[k].at_) ∧ w.cell? ⟨bd, k * 2 + 1, none⟩ = some es[k].v) := haD
  have HSL : Hid (∀ k (hk : k < es.length), ∃ a n c, es[k].v = .slice a n c) := fun k hk => (h.oE k hk).isSlice
  obtain ⟨nc, r0, r1, r2, r3⟩ := h.row
  have c1 : w.cell? ⟨N, 76, none⟩ = some vA := (cell_row r0).trans r1
  have c2 : w.cell? ⟨N, 77, none⟩ = some vS := (cell_row r0).trans r2
  have c3 : w.cell? ⟨N, 81, none⟩ = some (.slice aD es.length capD) := (cell_row r0).trans r3
  have hN : N < w.heap.size := lt_of_some r0
  have hfew := h.few
  have HC : Hid (w.cell? ⟨N, 76, none⟩ = some vA ∧ w.cell? ⟨N, 77, none⟩ = some vS ∧ w.cell? ⟨N, 81, none⟩ = some (.slice aD es.length capD)) := ⟨c1, c2, c3⟩
  have H0 : Hid (Rs w es 0 0 (.slice none 0 0) (.slice none 0 0) w) := ⟨World.ownsRow_nil _ _ _ _, World.ownsRow_nil _ _ _ _, (fun b e => by cases e), Below.refl _ _⟩
  clear haD r0 r1 r2 r3 h
  go_enter Try.func11, Try.ntmps11
  go_wp2
  go_loopw [4, 5, 13] (fun t r i wr => ∃ k : Nat, k ≤ es.length ∧ i = .int .i64 k ∧ Rs w es k k t r wr) (fun t r i wr => es.length - (intOf i).toNat)
  case atStart => exact ⟨0, by omega, rfl, H0.out⟩
  case round =>
    obtain ⟨k, hk, rfl, hrs⟩ := hrel
    have HR : Hid (Rs w es k k u4 u5 wr) := hrs
    have c1' : wr.cell? ⟨N, 76, none⟩ = some vA := (hrs.bel.cell (p := ⟨N, 76, none⟩) hN).trans HC.out.1
    have c2' : wr.cell? ⟨N, 77, none⟩ = some vS := (hrs.bel.cell (p := ⟨N, 77, none⟩) hN).trans HC.out.2.1
    have c3' : wr.cell? ⟨N, 81, none⟩ = some (.slice aD es.length capD) := (hrs.bel.cell (p := ⟨N, 81, none⟩) hN).trans HC.out.2.2
    clear H0 c1 c2 c3
    by_cases hlt : k < es.length
    · obtain ⟨bd, e1, hd1, hd2⟩ := HD.out k hlt
      obtain ⟨sa, sn, sc, e3⟩ := HSL.out k hlt
      subst e1
      have hbd : bd < w.heap.size := World.block_lt_of_cell? w ⟨bd, k * 2, none⟩ hd1
      have d1 : wr.cell? ⟨bd, k * 2, none⟩ = some (.int .u64 es[k].at_) := (hrs.bel.cell (p := ⟨bd, k * 2, none⟩) hbd).trans hd1
      have HA1 : ∀ g c w1, (wr.alloc (.cells #[.int .u64 es[k].at_] 24)).grownBy w1 u4.ownBlock → w1.ownsRow w.heap.size 24 1 (.slice (some ⟨g, 0, none⟩) (k + 1) c) (k + 1) ((es.take k).map (fun e => Value.int .u64 e.at_) ++ [.int .u64 es[k].at_]) → (u4.ownBlock = some g ∨ g = (wr.alloc (.cells #[.int .u64 es[k].at_] 24)).heap.size) →
          w1.cell? ⟨N, 76, none⟩ = some vA ∧ w1.cell? ⟨N, 77, none⟩ = some vS ∧ w1.cell? ⟨N, 81, none⟩ = some (.slice (some ⟨bd, 0, none⟩) es.length capD) ∧ w1.cell? ⟨bd, k * 2 + 1, none⟩ = some (.slice sa sn sc) ∧ Hid (Rs w es (k + 1) k (.slice (some ⟨g, 0, none⟩) (k + 1) c) u5 w1) := by
        intro g c w1 q1 q2 q3
        have q := hrs.stepT hlt q1 q2 q3
        exact ⟨(q.bel.cell (p := ⟨N, 76, none⟩) hN).trans HC.out.1, (q.bel.cell (p := ⟨N, 77, none⟩) hN).trans HC.out.2.1, (q.bel.cell (p := ⟨N, 81, none⟩) hN).trans HC.out.2.2, (q.bel.cell (p := ⟨bd, k * 2 + 1, none⟩) hbd).trans (hd2.trans (by rw [e3])), q⟩
      have HA2 : ∀ vT' w1 g c w2, Rs w es (k + 1) k vT' u5 w1 → (w1.alloc (.cells #[.slice sa sn sc] 22)).grownBy w2 u5.ownBlock → w2.ownsRow w.heap.size 22 1 (.slice (some ⟨g, 0, none⟩) (k + 1) c) (k + 1) ((es.take k).map (fun e => e.v) ++ [.slice sa sn sc]) → (u5.ownBlock = some g ∨ g = (w1.alloc (.cells #[.slice sa sn sc] 22)).heap.size) → Hid (Rs w es (k + 1) (k + 1) vT' (.slice (some ⟨g, 0, none⟩) (k + 1) c) w2) := by
        intro vT' w1 g c w2 q0 q1 q2 q3
        exact q0.stepR hlt q1 (by rw [e3]; exact q2) q3
      generalize es[k].at_ = u at *
      have HO1 : Hid ((wr.alloc (.cells #[.int .u64 u] 24)).ownsRow w.heap.size 24 1 u4 k ((es.take k).map (fun e => Value.int .u64 e.at_))) := hrs.ownT.alloc _
      have HB1 : Hid (w.heap.size ≤ (wr.alloc (.cells #[.int .u64 u] 24)).heap.size) := (by have := hrs.bel.size; show _ ≤ _; simp; omega)
      have HN1 : Hid (∀ j x, [Value.int .u64 u][j]? = some x → (wr.alloc (.cells #[.int .u64 u] 24)).cell? ((⟨wr.heap.size, 0, none⟩ : Addr).add j) = some x) := World.news_of_block (heap_alloc_last wr (.cells #[.int .u64 u] 24))
      have HN2 : ∀ w1 : World, Hid (∀ j x, [Value.slice sa sn sc][j]? = some x → (w1.alloc (.cells #[.slice sa sn sc] 22)).cell? ((⟨w1.heap.size, 0, none⟩ : Addr).add j) = some x) := fun w1 => World.news_of_block (heap_alloc_last w1 (.cells #[.slice sa sn sc] 22))
      have HK1 : Hid (∀ x ∈ [Value.int .u64 u], x.oneCell' = true) := (by intro x hx; simp at hx; subst hx; rfl)
      have HK2 : Hid (∀ x ∈ [Value.slice sa sn sc], x.oneCell' = true) := (by intro x hx; simp at hx; subst hx; rfl)
      have H63 : Hid (k + 1 ≤ maxLen) := Nat.le_trans (by omega : k + 1 ≤ 1048577) (by decide)
      have HBY : Hid ((k + 1) * 8 ≤ 140737488355328) := (by show _ ≤ _; omega)
      have HBZ : Hid ((k + 1) * 24 ≤ 140737488355328) := (by show _ ≤ _; omega)
      obtain ⟨i24, q1, q2, q3, q4⟩ := info24
      have HI : Hid (Try.prog.info? 24 = some i24 ∧ i24.zero = some (.int .u64 0) ∧ i24.size = 1 ∧ i24.bytes = 8) := ⟨q1, q2, q3, q4⟩
      clear q1 q2 q3 q4
      obtain ⟨i22, q1, q2, q3, q4⟩ := info22
      have HI2 : Hid (Try.prog.info? 22 = some i22 ∧ i22.zero = some (.slice none 0 0) ∧ i22.size = 1 ∧ i22.bytes = 24) := ⟨q1, q2, q3, q4⟩
      have HA1h : Hid (∀ g c w1, (wr.alloc (.cells #[.int .u64 u] 24)).grownBy w1 u4.ownBlock → w1.ownsRow w.heap.size 24 1 (.slice (some ⟨g, 0, none⟩) (k + 1) c) (k + 1) ((es.take k).map (fun e => Value.int .u64 e.at_) ++ [.int .u64 u]) → (u4.ownBlock = some g ∨ g = (wr.alloc (.cells #[.int .u64 u] 24)).heap.size) →
          w1.cell? ⟨N, 76, none⟩ = some vA ∧ w1.cell? ⟨N, 77, none⟩ = some vS ∧ w1.cell? ⟨N, 81, none⟩ = some (.slice (some ⟨bd, 0, none⟩) es.length capD) ∧ w1.cell? ⟨bd, k * 2 + 1, none⟩ = some (.slice sa sn sc) ∧ Hid (Rs w es (k + 1) k (.slice (some ⟨g, 0, none⟩) (k + 1) c) u5 w1)) := HA1
      have HA2h : Hid (∀ vT' w1 g c w2, Rs w es (k + 1) k vT' u5 w1 → (w1.alloc (.cells #[.slice sa sn sc] 22)).grownBy w2 u5.ownBlock → w2.ownsRow w.heap.size 22 1 (.slice (some ⟨g, 0, none⟩) (k + 1) c) (k + 1) ((es.take k).map (fun e => e.v) ++ [.slice sa sn sc]) → (u5.ownBlock = some g ∨ g = (w1.alloc (.cells #[.slice sa sn sc] 22)).heap.size) → Hid (Rs w es (k + 1) (k + 1) vT' (.slice (some ⟨g, 0, none⟩) (k + 1) c) w2)) := HA2
      clear q1 q2 q3 q4 HA1 HA2 hd1 hd2 e3 hrs c1' c2'
      go_wp2_with (first
        | (refine wpList_append_lies _ rfl (.tmp 16) (.tmp 26) 22 rfl w.heap.size 24 i24 (.int .u64 0) 1 8 Try.underlying22 HI.out.1 HI.out.2.1 HI.out.2.2.1 HI.out.2.2.2 rfl (by decide) u4 k ((es.take k).map (fun e => Value.int .u64 e.at_)) (by simp [Act.eval]) HO1.out ⟨wr.heap.size, 0, none⟩ 1 1 [.int .u64 u] (by simp [Act.eval]) rfl HN1.out HK1.out (by decide) H63.out HBY.out HB1.out _ rfl ?_; intro g cap w1 hown hgrow hat hlt'; obtain ⟨m1, m2, m3, m4, HR1⟩ := HA1h.out _ _ _ hgrow hown hat; clear hown hgrow hat hlt')
        | (refine wpList_append_lies _ rfl (.tmp 28) (.tmp 38) 23 rfl w.heap.size 22 i22 (.slice none 0 0) 1 24 Try.underlying23 HI2.out.1 HI2.out.2.1 HI2.out.2.2.1 HI2.out.2.2.2 rfl (by decide) u5 k ((es.take k).map (fun e => e.v)) (by simp [Act.eval]) (HR1.out.ownR.alloc _) ⟨w1.heap.size, 0, none⟩ 1 1 [.slice sa sn sc] (by simp [Act.eval]) rfl (HN2 w1).out HK2.out (by decide) H63.out HBZ.out (by have := HR1.out.bel.size; simp; omega) _ rfl ?_; intro g2 cap2 w2 hown2 hgrow2 hat2 hlt2; have HR2 := HA2h.out _ _ _ _ _ HR1.out hgrow2 hown2 hat2; clear hown2 hgrow2 hat2 hlt2))
      go_roundw
      case rel => exact ⟨k + 1, by omega, by go_num, HR2.out⟩
      case measure => simp [intOf]; omega
    · clear hrs
      go_wp2
      go_quiet (fail)
      go_wp2
      (try simp only [Exit.inBlock, Exit.then])
      refine bodyPost_ret (results_tmp4 rfl _ _ _) rfl ?_
      have e : k = es.length := by omega
      subst e
      exact ⟨u4, u5, rfl, ⟨HR.out.ownT, HR.out.ownR, HR.out.sep, below_drewN HR.out.bel _⟩⟩
end Go.Proofs.Qxb6613898a
