import Derived.Test.Qxb6613898aStates
import Derived.WalkSpells
import Derived.Deep.WholeRow
namespace Go.Proofs.Qxb6613898a
open Go.RowKit
set_option linter.unusedVariables false

/-- a row of one-cell words that the call itself made -/
def OU (w : World) (v : Value) (us : List Int) : Prop :=
  (v = .slice none 0 0 ∧ us = []) ∨
  ∃ b cap cur, v = .slice (some ⟨b, 0, none⟩) us.length cap ∧ w.heap[b]? = some (.cells cur 24 (0, 0)) ∧ cur.size = cap ∧ us.length ≤ cap ∧ cap ≤ 1048576 ∧ ∀ i (h : i < us.length), cur[i]? = some (.int .u64 us[i])

theorem cell_row {w : World} {b i : Nat} {c : Array Value} {t : TypeId} (h : w.heap[b]? = some (.cells c t (0, 0))) : w.cell? ⟨b, i, none⟩ = c[i]? := by
  simp [World.cell?, h]
theorem free_row {w : World} {b i : Nat} {c : Array Value} {t : TypeId} (h : w.heap[b]? = some (.cells c t (0, 0))) : w.frozen? ⟨b, i, none⟩ = false := by
  simp [World.frozen?, h]
theorem row_set {w : World} {b i : Nat} {c : Array Value} {t : TypeId} (v : Value) (h : w.heap[b]? = some (.cells c t (0, 0))) : (w.setCell ⟨b, i, none⟩ v).heap[b]? = some (.cells (c.setIfInBounds i v) t (0, 0)) := by
  simp [World.setCell, Array.getElem?_modify, h]

theorem OU.rd {w : World} {v : Value} {us : List Int} (h : OU w v us) : RdU w v us := by
  rcases h with ⟨rfl, rfl⟩ | ⟨b, cap, cur, rfl, hb, hs, hl, hm, hc⟩
  · exact ⟨none, 0, rfl, by simp, fun i h => absurd h (Nat.not_lt_zero _)⟩
  · exact ⟨_, cap, rfl, by omega, fun i h => ⟨b, 0, rfl, by rw [Nat.zero_add, cell_row hb]; exact hc i h⟩⟩

theorem ptr24 : (Try.prog.info? 24).map (fun i => (i.zero, i.size, i.bytes)) = some (some (.int .u64 0), 1, 8) := by kernel_rfl

theorem make22 (w : World) (n : Nat) (h : n ≤ 1048576) : ∃ cur : Array Value, cur.size = n ∧ (Instr.makeSlice 22 (.int .i64 n) (.int .i64 n)).run Try.prog w = .ok (.slice (some ⟨w.heap.size, 0, none⟩) n n) (w.alloc (.cells cur 24)) := by
  obtain ⟨i, hi, hz, hsz, hby⟩ : ∃ i, Try.prog.info? 24 = some i ∧ i.zero = some (.int .u64 0) ∧ i.size = 1 ∧ i.bytes = 8 := by
    have := ptr24
    cases hq : Try.prog.info? 24 with
    | none => rw [hq] at this; cases this
    | some i =>
      rw [hq] at this
      simp at this
      exact ⟨i, rfl, this.1, this.2.1, this.2.2⟩
  have := run_make (P := Try.prog) w 22 24 i (.int .u64 0) Try.underlying22 hi hz .i64 .i64 (n : Int) (n : Int) (by omega) (by omega) (by rw [hby]; omega) (by omega)
  rw [hsz, Nat.mul_one] at this
  simp only [Int.toNat_natCast] at this
  exact ⟨_, size_madeCells _ _, this⟩

set_option maxHeartbeats 1000000 in
theorem clone7 (v : Value) (us : List Int) (w : World) (hr : RdU w v us) :
    Calls Try.prog 7 #[v] w fun e w' => ∃ v', e = .returned v' ∧ OU w' v' us ∧ (∀ b, v'.ownBlock = some b → w.heap.size ≤ b) ∧ Below w.heap.size w w' := by
  obtain ⟨a, cap, rfl, hl, hc⟩ := hr
  have HC : Hid (∀ i (h : i < us.length), ∃ b off, a = some ⟨b, off, none⟩ ∧ w.cell? ⟨b, off + i, none⟩ = some (.int .u64 us[i])) := hc
  clear hc
  cases ha : a with
  | none =>
    have h0 : us.length = 0 := by
      by_cases h : 0 < us.length
      · obtain ⟨b, off, e, _⟩ := HC.out 0 h; rw [ha] at e; cases e
      · omega
    have hu : us = [] := List.eq_nil_of_length_eq_zero h0
    subst hu
    clear HC ha hl
    have hnil := fun (w : World) => Lib.run_eql_slice_nil (P := Try.prog) w 22 24 none 0 cap 0 0 Try.underlying22
    simp only [Option.isNone_none] at hnil
    go_enter Try.func7, Try.ntmps7
    go_wp2
    go_ret
    exact ⟨.slice none 0 0, rfl, .inl ⟨rfl, rfl⟩, (fun b h => by cases h), Below.refl _ _⟩
  | some ad =>
    subst ha
    obtain ⟨cur0, hs0, hmk⟩ := make22 w us.length hl
    have hnil := fun (w : World) => Lib.run_eql_slice_nil (P := Try.prog) w 22 24 (some ad) us.length cap 0 0 Try.underlying22
    simp only [Option.isNone_some] at hnil
    go_enter Try.func7, Try.ntmps7
    go_wp2
    go_loopw [4] (fun i wr => ∃ (k : Nat) (cur : Array Value), k ≤ us.length ∧ i = .int .i64 k ∧ wr.heap[w.heap.size]? = some (.cells cur 24 (0, 0)) ∧ cur.size = us.length ∧ (∀ i (h : i < us.length), i < k → cur[i]? = some (.int .u64 us[i])) ∧ Below w.heap.size w wr) (fun i wr => us.length - (intOf i).toNat)
    case atStart => exact ⟨0, cur0, by omega, rfl, heap_alloc_last _ _, hs0, fun i _ h => absurd h (Nat.not_lt_zero _), (Below.refl _ _).alloc (Nat.le_refl _) _⟩
    case round =>
      obtain ⟨k, cur, hk, rfl, hrow, hsz, hpre, hbel⟩ := hrel
      have HRow : Hid (wr.heap[w.heap.size]? = some (.cells cur 24 (0, 0))) := hrow
      have HPre : Hid (∀ i (h : i < us.length), i < k → cur[i]? = some (.int .u64 us[i])) := hpre
      have HBel : Hid (Below w.heap.size w wr) := hbel
      have HSz : Hid (cur.size = us.length) := hsz
      clear hrow hpre hbel hmk hs0 hsz hnil
      by_cases hlt : k < us.length
      · obtain ⟨b, off, e, hcell0⟩ := HC.out k hlt
        obtain rfl := Option.some.inj e
        have hbl : b < w.heap.size := World.block_lt_of_cell? w ⟨b, off + k, none⟩ hcell0
        have hcell : wr.cell? ⟨b, off + k, none⟩ = some (.int .u64 us[k]) := (HBel.out.cell (p := ⟨b, off + k, none⟩) hbl).trans hcell0
        have hold : wr.cell? ⟨w.heap.size, k, none⟩ = some cur[k]! := by
          rw [cell_row HRow.out, getElem!_pos cur k (by rw [HSz.out]; exact hlt), Array.getElem?_eq_getElem]
        have hfree : wr.frozen? ⟨w.heap.size, k, none⟩ = false := free_row HRow.out
        have HU : Hid (us[k] = us[k]) := rfl
        generalize hu : us[k] = u at *
        have HUK : Hid (us[k] = u) := hu
        generalize cur[k]! = old at *
        clear hu hcell0 e HU
        go_wp2
        go_roundw
        case rel =>
          refine ⟨k + 1, cur.setIfInBounds k (.int .u64 u), by omega, by go_num, row_set _ HRow.out, by rw [Array.size_setIfInBounds]; exact HSz.out, fun i h hi => ?_, HBel.out.setCell (Nat.le_refl _) _⟩
          rw [Array.getElem?_setIfInBounds]
          by_cases e : k = i
          · subst e
            rw [if_pos rfl, if_pos (by rw [HSz.out]; exact hlt), ← HUK.out]
          · rw [if_neg e]; exact HPre.out i h (by omega)
        case measure => simp [intOf]; omega
      · go_wp2
        go_ret
        exact ⟨.slice (some ⟨w.heap.size, 0, none⟩) us.length us.length, rfl, .inr ⟨w.heap.size, us.length, cur, rfl, HRow.out, HSz.out, Nat.le_refl _, hl, fun i h => HPre.out i h (by omega)⟩, (fun b h => by cases h; exact Nat.le_refl _), HBel.out⟩

end Go.Proofs.Qxb6613898a
