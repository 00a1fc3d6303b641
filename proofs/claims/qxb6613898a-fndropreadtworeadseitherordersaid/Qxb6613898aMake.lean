import Derived.Test.Qxb6613898aNew
namespace Go.Proofs.Qxb6613898a
open Go.RowKit
set_option linter.unusedVariables false

/-- the first k dues, and the cells that they lie in -/
def esOf (T : List Int) (f : Nat → Value) (R : List (List Int)) (k : Nat) : List Ent := (List.range k).map fun i => ⟨T.getD i 0, f i, R.getD i []⟩
def flat (T : List Int) (f : Nat → Value) (k : Nat) : List Value := (List.range k).flatMap fun i => [.int .u64 (T.getD i 0), f i]
theorem flat_succ (T : List Int) (f : Nat → Value) (k : Nat) : flat T f (k + 1) = flat T f k ++ [.int .u64 (T.getD k 0), f k] := by
  simp [flat, List.range_succ]
theorem flat_len (T : List Int) (f : Nat → Value) : ∀ k, (flat T f k).length = k * 2
  | 0 => rfl
  | k + 1 => by rw [flat_succ, List.length_append, flat_len T f k]; simp; omega
theorem flat_at (T : List Int) (f : Nat → Value) : ∀ k i, i < k → (flat T f k)[i * 2]? = some (.int .u64 (T.getD i 0)) ∧ (flat T f k)[i * 2 + 1]? = some (f i)
  | 0, i, h => absurd h (Nat.not_lt_zero _)
  | k + 1, i, h => by
    rw [flat_succ]
    by_cases e : i < k
    · obtain ⟨h1, h2⟩ := flat_at T f k i e
      rw [List.getElem?_append_left (by rw [flat_len]; omega), List.getElem?_append_left (by rw [flat_len]; omega)]
      exact ⟨h1, h2⟩
    · have e : i = k := by omega
      subst e
      rw [List.getElem?_append_right (by rw [flat_len]; omega), List.getElem?_append_right (by rw [flat_len]; omega), flat_len, Nat.sub_self, Nat.add_sub_cancel_left]
      exact ⟨rfl, rfl⟩
theorem esOf_len (T : List Int) (f : Nat → Value) (R : List (List Int)) (k : Nat) : (esOf T f R k).length = k := by simp [esOf]
theorem esOf_at (T : List Int) (f : Nat → Value) (R : List (List Int)) (k i : Nat) (h : i < (esOf T f R k).length) : (esOf T f R k)[i] = ⟨T.getD i 0, f i, R.getD i []⟩ := by simp [esOf]

theorem due_of_owns {w : World} {base : Nat} {v : Value} {T : List Int} {f : Nat → Value} {k : Nat} (R : List (List Int)) (h : w.ownsRow base 89 2 v k (flat T f k)) : DueRow w v (esOf T f R k) := by
  rcases h.2 with ⟨rfl, rfl⟩ | ⟨g, cap, cur, rfl, hb, hg, hc, hm, hs, ht⟩
  · exact .inl ⟨rfl, rfl⟩
  · refine .inr ⟨g, cap, cur, by rw [esOf_len], hg, hs, by rw [esOf_len]; exact hc, fun i hi => ?_⟩
    rw [esOf_at]
    have hi' : i < k := by rw [esOf_len] at hi; exact hi
    obtain ⟨h1, h2⟩ := flat_at T f k i hi'
    rw [← ht] at h1 h2
    rw [List.getElem?_take, if_pos (by omega), Array.getElem?_toList] at h1 h2
    exact ⟨h1, h2⟩

/-- while the dues are appended -/
structure Mk (w0 : World) (N : Nat) (vA vS : Value) (T : List Int) (f : Nat → Value) (k : Nat) (vD : Value) (wr : World) : Prop where
  row : ∃ nc, wr.heap[N]? = some (.cells nc 87 (0, 0)) ∧ nc[76]? = some vA ∧ nc[77]? = some vS ∧ nc[81]? = some vD
  own : wr.ownsRow (N + 1) 89 2 vD k (flat T f k)
  bel : Below N w0 wr

theorem Mk.app {w0 wr w' : World} {N k : Nat} {vA vS vD v' : Value} {T : List Int} {f : Nat → Value} (h : Mk w0 N vA vS T f k vD wr) {o : Obj} (hg : (wr.drew.alloc o).grownBy w' vD.ownBlock)
    (ho : w'.ownsRow (N + 1) 89 2 v' (k + 1) (flat T f k ++ [.int .u64 (T.getD k 0), f k])) :
    w'.cell? ⟨N, 81, none⟩ = some vD ∧ w'.frozen? ⟨N, 81, none⟩ = false ∧ Mk w0 N vA vS T f (k + 1) v' (w'.setCell ⟨N, 81, none⟩ v') := by
  obtain ⟨nc, r0, r1, r2, r3⟩ := h.row
  have hN : N < wr.heap.size := lt_of_some r0
  have hne : some N ≠ vD.ownBlock := fun e => by have := (h.own.lt N e.symm).1; omega
  have hblk : ∀ x, x < wr.heap.size → (wr.drew.alloc o).heap[x]? = wr.heap[x]? := fun x hx => Below.heap_alloc wr.drew o x hx
  have hrow : w'.heap[N]? = some (.cells nc 87 (0, 0)) := (hg.block N (by simp; show N < wr.heap.size + 1; omega) hne).trans ((hblk N hN).trans r0)
  have hset : w'.grownBy (w'.setCell ⟨N, 81, none⟩ v') (some N) := ⟨rfl, rfl, rfl, by simp [World.setCell], fun x hx hx2 => Below.heap_setCell _ _ _ _ (fun e => hx2 (congrArg some e))⟩
  refine ⟨(cell_row hrow).trans r3, free_row hrow, ⟨⟨_, row_set _ hrow, ?_, ?_, ?_⟩, ?_, ?_⟩⟩
  · rw [Array.getElem?_setIfInBounds_ne (by omega)]; exact r1
  · rw [Array.getElem?_setIfInBounds_ne (by omega)]; exact r2
  · rw [Array.getElem?_setIfInBounds_self, if_pos]
    by_cases c : 81 < nc.size
    · exact c
    · rw [Array.getElem?_eq_none (by omega)] at r3; cases r3
  · rw [flat_succ]
    exact ho.kept hset (.inr fun e => by have := (ho.lt N e).1; omega)
  · have b1 : Below N w0 (wr.drew.alloc o) := h.bel.drew.alloc (Nat.le_of_lt hN) o
    exact (b1.grown hg (by simp; show N ≤ wr.heap.size + 1; omega) (fun x hx => by have := (h.own.lt x hx).1; omega)).setCell (Nat.le_refl _) _

theorem info89 : (Try.prog.info? 89).map (fun i => (i.zero, i.size, i.bytes)) = some (some (.agg #[.int .u64 0, .slice none 0 0]), 2, 32) := by kernel_rfl

end Go.Proofs.Qxb6613898a
