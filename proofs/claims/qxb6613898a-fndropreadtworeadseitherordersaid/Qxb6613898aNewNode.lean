import Derived.Test.Qxb6613898aMake
namespace Go.Proofs.Qxb6613898a
open Go.RowKit
set_option linter.unusedVariables false

structure News (w : World) : Prop where
  out : Calls Try.prog 15 #[.string ⟨#[122, 122]⟩] w fun e w' => e = .returned (.pointer (some ⟨w.heap.size, 0, none⟩)) ∧ (∃ nc, w'.heap[w.heap.size]? = some (.cells nc 87 (0, 0)) ∧ nc[76]? = some (.slice none 0 0) ∧ nc[77]? = some (.slice none 0 0) ∧ nc[81]? = some (.slice none 0 0)) ∧ Below w.heap.size w w'

theorem inf89 : ∃ i, Try.prog.info? 89 = some i ∧ i.zero = some (.agg #[.int .u64 0, .slice none 0 0]) ∧ i.size = 2 ∧ i.bytes = 32 := by
  have := info89
  cases hq : Try.prog.info? 89 with
  | none => rw [hq] at this; cases this
  | some i =>
    rw [hq] at this
    simp at this
    exact ⟨i, rfl, this.1, this.2.1, this.2.2⟩

/-- behind the two stores -/
theorem mk_zero {w w1 : World} {nc : Array Value} (r0 : w1.heap[w.heap.size]? = some (.cells nc 87 (0, 0))) (r1 : nc[76]? = some (.slice none 0 0)) (r2 : nc[77]? = some (.slice none 0 0)) (r3 : nc[81]? = some (.slice none 0 0)) (hb : Below w.heap.size w w1) (vA vS : Value) (T : List Int) (f : Nat → Value) :
    w1.cell? ⟨w.heap.size, 76, none⟩ = some (.slice none 0 0) ∧ w1.frozen? ⟨w.heap.size, 76, none⟩ = false ∧ w1.cell? ⟨w.heap.size, 77, none⟩ = some (.slice none 0 0) ∧ w1.frozen? ⟨w.heap.size, 77, none⟩ = false ∧ Mk w w.heap.size vA vS T f 0 (.slice none 0 0) ((w1.setCell ⟨w.heap.size, 76, none⟩ vA).setCell ⟨w.heap.size, 77, none⟩ vS) := by
  have q := row_set (i := 77) vS (row_set (i := 76) vA r0)
  have hsz : ∀ i v, nc[i]? = some v → i < nc.size := fun i v h => by
    by_cases c : i < nc.size
    · exact c
    · rw [Array.getElem?_eq_none (by omega)] at h; cases h
  refine ⟨(cell_row r0).trans r1, free_row r0, (cell_row r0).trans r2, free_row r0, ⟨⟨_, q, ?_, ?_, ?_⟩, World.ownsRow_nil _ _ _ _, (hb.setCell (Nat.le_refl _) _).setCell (Nat.le_refl _) _⟩⟩
  · rw [Array.getElem?_setIfInBounds_ne (by omega), Array.getElem?_setIfInBounds_self, if_pos (hsz _ _ r1)]
  · rw [Array.getElem?_setIfInBounds_self, if_pos (by rw [Array.size_setIfInBounds]; exact hsz _ _ r2)]
  · rw [Array.getElem?_setIfInBounds_ne (by omega), Array.getElem?_setIfInBounds_ne (by omega)]; exact r3

set_option maxRecDepth 4000 in
set_option maxHeartbeats 2000000 in
theorem newNode9 (w : World) (vA vS vT vR : Value) (aT aR : Option Addr) (T : List Int) (cT cR : Nat) (f : Nat → Value) (hvA : ∃ a n c, vA = .slice a n c) (hvS : ∃ a n c, vS = .slice a n c)
    (hT : ∀ i (h : i < T.length), ∃ b off, aT = some ⟨b, off, none⟩ ∧ w.cell? ⟨b, off + i, none⟩ = some (.int .u64 T[i])) (hf : ∀ i, i < T.length → ∃ b, aR = some ⟨b, 0, none⟩ ∧ w.cell? ⟨b, i, none⟩ = some (f i)) (hs : ∀ i, i < T.length → ∃ a n c, f i = .slice a n c) (hlT : T.length ≤ 1048576) :
    Calls Try.prog 9 #[vA, vS, .slice aT T.length cT, .slice aR T.length cR] w fun e w' => e = .returned (.pointer (some ⟨w.heap.size, 0, none⟩)) ∧ ∃ vD, Mk w w.heap.size vA vS T f T.length vD w' := by
  obtain ⟨a1, n1, c1, rfl⟩ := hvA
  obtain ⟨a2, n2, c2, rfl⟩ := hvS
  have HT : Hid (∀ i (h : i < T.length), ∃ b off, aT = some ⟨b, off, none⟩ ∧ w.cell? ⟨b, off + i, none⟩ = some (.int .u64 T[i])) := hT
  have HF : Hid (∀ i, i < T.length → ∃ b, aR = some ⟨b, 0, none⟩ ∧ w.cell? ⟨b, i, none⟩ = some (f i)) := hf
  have HS : Hid (∀ i, i < T.length → ∃ a n c, f i = .slice a n c) := hs
  have hnew : News w := ⟨new15 w⟩
  clear hT hf hs
  go_enter Try.func9, Try.ntmps9
  go_wp2_with (go_at_call 15; refine (News.out (by assumption)).mono ?_; rintro e w1 ⟨rfl, ⟨nc, r0, r1, r2, r3⟩, hb⟩; obtain ⟨k1, k2, k3, k4, k5⟩ := mk_zero r0 r1 r2 r3 hb (.slice a1 n1 c1) (.slice a2 n2 c2) T f; have HK : Hid (Mk w w.heap.size (.slice a1 n1 c1) (.slice a2 n2 c2) T f 0 (.slice none 0 0) ((w1.setCell ⟨w.heap.size, 76, none⟩ (.slice a1 n1 c1)).setCell ⟨w.heap.size, 77, none⟩ (.slice a2 n2 c2))) := k5; clear r0 r1 r2 r3 hb k5)
  go_loopw [10] (fun i wr => ∃ (k : Nat) (vD : Value), k ≤ T.length ∧ i = .int .i64 k ∧ Mk w w.heap.size (.slice a1 n1 c1) (.slice a2 n2 c2) T f k vD wr) (fun i wr => T.length - (intOf i).toNat)
  case atStart => exact ⟨0, _, by omega, rfl, HK.out⟩
  case round =>
    obtain ⟨k, vD, hk, rfl, hm⟩ := hrel
    have HM : Hid (Mk w w.heap.size (.slice a1 n1 c1) (.slice a2 n2 c2) T f k vD wr) := hm
    clear k1 k2 k3 k4 HK hm hnew
    by_cases hlt : k < T.length
    · obtain ⟨b, off, e1, hc1⟩ := HT.out k hlt
      obtain ⟨b', e2, hc2⟩ := HF.out k hlt
      obtain ⟨sa, sn, sc, e3⟩ := HS.out k hlt
      subst e1 e2
      have hw := HM.out.bel
      have d1 : wr.cell? ⟨b, off + k, none⟩ = some (.int .u64 T[k]) := (hw.cell (p := ⟨b, off + k, none⟩) (World.block_lt_of_cell? w ⟨b, off + k, none⟩ hc1)).trans hc1
      have d2 : wr.cell? ⟨b', k, none⟩ = some (f k) := (hw.cell (p := ⟨b', k, none⟩) (World.block_lt_of_cell? w ⟨b', k, none⟩ hc2)).trans hc2
      obtain ⟨nc, r0, r1, r2, r3⟩ := HM.out.row
      have d3 : wr.cell? ⟨w.heap.size, 81, none⟩ = some vD := (cell_row r0).trans r3
      have hN : w.heap.size < wr.heap.size := lt_of_some r0
      clear hc1 hc2 r0 r1 r2 r3 hw
      have hgd : T.getD k 0 = T[k] := by rw [List.getD_eq_getElem?_getD, List.getElem?_eq_getElem hlt]; rfl
      have happ : ∀ w' v', (wr.drew.alloc (.cells #[.int .u64 T[k], .slice sa sn sc] 89)).grownBy w' vD.ownBlock → w'.ownsRow (w.heap.size + 1) 89 2 v' (k + 1) (flat T f k ++ [.int .u64 T[k], .slice sa sn sc]) → w'.cell? ⟨w.heap.size, 81, none⟩ = some vD ∧ w'.frozen? ⟨w.heap.size, 81, none⟩ = false ∧ Hid (Mk w w.heap.size (.slice a1 n1 c1) (.slice a2 n2 c2) T f (k + 1) v' (w'.setCell ⟨w.heap.size, 81, none⟩ v')) := by
        intro w' v' q1 q2
        exact HM.out.app q1 (by rw [hgd, e3]; exact q2)
      rw [e3] at d2
      have HE : Hid (f k = .slice sa sn sc) := e3
      have HG : Hid (T.getD k 0 = T[k]) := hgd
      generalize T[k] = u at *
      have HAPP : Hid (∀ w' v', (wr.drew.alloc (.cells #[.int .u64 u, .slice sa sn sc] 89)).grownBy w' vD.ownBlock → w'.ownsRow (w.heap.size + 1) 89 2 v' (k + 1) (flat T f k ++ [.int .u64 u, .slice sa sn sc]) → w'.cell? ⟨w.heap.size, 81, none⟩ = some vD ∧ w'.frozen? ⟨w.heap.size, 81, none⟩ = false ∧ Hid (Mk w w.heap.size (.slice a1 n1 c1) (.slice a2 n2 c2) T f (k + 1) v' (w'.setCell ⟨w.heap.size, 81, none⟩ v'))) := happ
      have HOWN : Hid ((wr.drew.alloc (.cells #[.int .u64 u, .slice sa sn sc] 89)).ownsRow (w.heap.size + 1) 89 2 vD k (flat T f k)) := (show wr.drew.ownsRow (w.heap.size + 1) 89 2 vD k (flat T f k) from HM.out.own).alloc _
      have HNEWS : Hid (∀ j x, [Value.int .u64 u, .slice sa sn sc][j]? = some x → (wr.drew.alloc (.cells #[.int .u64 u, .slice sa sn sc] 89)).cell? ((⟨wr.heap.size, 0, none⟩ : Addr).add j) = some x) := World.news_of_block (heap_alloc_last wr.drew (.cells #[.int .u64 u, .slice sa sn sc] 89))
      have H1 : Hid (∀ x ∈ [Value.int .u64 u, .slice sa sn sc], x.oneCell' = true) := (by intro x hx; simp at hx; rcases hx with rfl | rfl <;> rfl)
      have H63 : Hid (k + 1 ≤ maxLen) := Nat.le_trans (by omega : k + 1 ≤ 1048577) (by decide)
      have HBY : Hid ((k + 1) * 32 ≤ 140737488355328) := (by show _ ≤ _; omega)
      have HBA : Hid (w.heap.size + 1 ≤ (wr.drew.alloc (.cells #[.int .u64 u, .slice sa sn sc] 89)).heap.size) := (by show _ ≤ _; simp; exact Nat.le_of_lt hN)
      obtain ⟨i89, hi89, hz89, hs89, hb89⟩ := inf89
      have HI : Hid (Try.prog.info? 89 = some i89 ∧ i89.zero = some (.agg #[.int .u64 0, .slice none 0 0]) ∧ i89.size = 2 ∧ i89.bytes = 32) := ⟨hi89, hz89, hs89, hb89⟩
      clear happ e3 hgd hi89 hz89 hs89 hb89
      go_upto_region 7 with fail
      go_region_law (refine step_append_lies _ rfl (.tmp 39) (.tmp 49) 39 rfl (w.heap.size + 1) 89 i89 (.agg #[.int .u64 0, .slice none 0 0]) 2 32 Try.underlying39 HI.out.1 HI.out.2.1 HI.out.2.2.1 HI.out.2.2.2 rfl (by decide) vD k (flat T f k) (by simp [Act.eval]) HOWN.out ⟨wr.heap.size, 0, none⟩ 1 1 [.int .u64 u, .slice sa sn sc] (by simp [Act.eval]) rfl HNEWS.out H1.out (by decide) H63.out HBY.out HBA.out _ rfl ?_; intro g cap w' hown hgrow hat hlt'; obtain ⟨m1, m2, m3⟩ := HAPP.out _ _ hgrow hown; clear hown hgrow hat hlt')
      all_goals (go_wp2; go_roundw)
      all_goals first
        | exact ⟨k + 1, _, by omega, by go_num, m3.out⟩
        | (simp [intOf]; omega)
    · go_wp2
      go_ret
      have e : k = T.length := by omega
      subst e
      exact ⟨rfl, vD, HM.out⟩
end Go.Proofs.Qxb6613898a
