import Derived.Test.Qxb6613898aDropRead
namespace Go.Proofs.Qxb6613898a
open Go.RowKit
set_option linter.unusedVariables false

/-- a call that returns a slice, by what it leaves -/
structure Does (f : FuncId) (args : Array Value) (w : World) (Post : Value → World → Prop) : Prop where
  out : Calls Try.prog f args w fun e w' => ∃ a n c, e = .returned (.slice a n c) ∧ Post (.slice a n c) w'

/-- a row of rows that the call itself made; its rows' blocks lie from J on, each row's its own -/
def OUU (w : World) (J : Nat) (v : Value) (R : List (List Int)) : Prop :=
  ∃ a cap, ∃ f : Nat → Value, v = .slice a R.length cap ∧ R.length ≤ 1048576 ∧
    (∀ i, i < R.length → ∃ b, a = some ⟨b, 0, none⟩ ∧ J ≤ b ∧ w.cell? ⟨b, i, none⟩ = some (f i)) ∧
    (∀ i (h : i < R.length), OU w (f i) R[i]) ∧
    (∀ i, i < R.length → ∀ x ∈ ob (f i), J ≤ x) ∧
    (∀ i j, i < j → j < R.length → ∀ x ∈ ob (f i), x ∉ ob (f j))

theorem cell_frame {w w' : World} (h : ∀ x, x < w.heap.size → w'.heap[x]? = w.heap[x]?) {p : Addr} {v : Value} (hc : w.cell? p = some v) : w'.cell? p = some v :=
  (World.cell?_of_block (h p.block (World.block_lt_of_cell? w p hc))).trans hc
theorem RdU.frame {w w' : World} {v : Value} {us : List Int} (h : RdU w v us) (hb : ∀ x, x < w.heap.size → w'.heap[x]? = w.heap[x]?) : RdU w' v us := by
  obtain ⟨a, cap, h1, h2, h3⟩ := h
  refine ⟨a, cap, h1, h2, fun i hi => ?_⟩
  obtain ⟨b, off, e, hc⟩ := h3 i hi
  exact ⟨b, off, e, cell_frame hb hc⟩
theorem RdUU.frame {w w' : World} {v : Value} {R : List (List Int)} (h : RdUU w v R) (hb : ∀ x, x < w.heap.size → w'.heap[x]? = w.heap[x]?) : RdUU w' v R := by
  obtain ⟨a, cap, h1, h2, h3⟩ := h
  refine ⟨a, cap, h1, h2, fun i hi => ?_⟩
  obtain ⟨b, off, x, e, hc, hx⟩ := h3 i hi
  exact ⟨b, off, x, e, cell_frame hb hc, hx.frame hb⟩
theorem OUU.frame {w w' : World} {J : Nat} {v : Value} {R : List (List Int)} (h : OUU w J v R) (hb : ∀ x, x < w.heap.size → w'.heap[x]? = w.heap[x]?) : OUU w' J v R := by
  obtain ⟨a, cap, f, h1, h2, h3, h4, h5, h6⟩ := h
  refine ⟨a, cap, f, h1, h2, fun i hi => ?_, fun i hi => (h4 i hi).frame fun x hx => hb x ((h4 i hi).lt x hx), h5, h6⟩
  obtain ⟨b, e, hJ, hc⟩ := h3 i hi
  exact ⟨b, e, hJ, cell_frame hb hc⟩
/-- the blocks from J on suffice -/
theorem OUU.frameJ {w w' : World} {J : Nat} {v : Value} {R : List (List Int)} (h : OUU w J v R) (hb : ∀ x, x < w.heap.size → J ≤ x → w'.heap[x]? = w.heap[x]?) : OUU w' J v R := by
  obtain ⟨a, cap, f, h1, h2, h3, h4, h5, h6⟩ := h
  refine ⟨a, cap, f, h1, h2, fun i hi => ?_, fun i hi => (h4 i hi).frame fun x hx => hb x ((h4 i hi).lt x hx) (h5 i hi x hx), h5, h6⟩
  obtain ⟨b, e, hJ, hc⟩ := h3 i hi
  exact ⟨b, e, hJ, (World.cell?_of_block (a := ⟨b, i, none⟩) (hb b (World.block_lt_of_cell? w ⟨b, i, none⟩ hc) hJ)).trans hc⟩
theorem OUU.rd {w : World} {J : Nat} {v : Value} {R : List (List Int)} (h : OUU w J v R) : RdUU w v R := by
  obtain ⟨a, cap, f, h1, h2, h3, h4, h5, h6⟩ := h
  refine ⟨a, cap, h1, h2, fun i hi => ?_⟩
  obtain ⟨b, e, _, hc⟩ := h3 i hi
  exact ⟨b, 0, f i, e, by rw [Nat.zero_add]; exact hc, (h4 i hi).rd⟩
theorem OU.framed {w w' : World} {v : Value} {us : List Int} (h : OU w v us) (hb : ∀ x, x < w.heap.size → w'.heap[x]? = w.heap[x]?) : OU w' v us := h.frame fun x hx => hb x (h.lt x hx)

theorem clone7s (v : Value) (us : List Int) (w : World) (hr : RdU w v us) : Does 7 #[v] w fun v' w' => OU w' v' us ∧ (∀ b, v'.ownBlock = some b → w.heap.size ≤ b) ∧ Below w.heap.size w w' := by
  refine ⟨(clone7 v us w hr).mono fun e w' ⟨v', he, h1, h2, h3⟩ => ?_⟩
  obtain ⟨a, n, c, rfl⟩ := h1.isSlice
  exact ⟨a, n, c, he, h1, h2, h3⟩

theorem ptr22 : (Try.prog.info? 22).map (fun i => (i.zero, i.size, i.bytes)) = some (some (.slice none 0 0), 1, 24) := by kernel_rfl

theorem make23 (w : World) (n : Nat) (h : n ≤ 1048576) : ∃ cur : Array Value, cur.size = n ∧ (Instr.makeSlice 23 (.int .i64 n) (.int .i64 n)).run Try.prog w = .ok (.slice (some ⟨w.heap.size, 0, none⟩) n n) (w.alloc (.cells cur 22)) := by
  obtain ⟨i, hi, hz, hsz, hby⟩ : ∃ i, Try.prog.info? 22 = some i ∧ i.zero = some (.slice none 0 0) ∧ i.size = 1 ∧ i.bytes = 24 := by
    have := ptr22
    cases hq : Try.prog.info? 22 with
    | none => rw [hq] at this; cases this
    | some i =>
      rw [hq] at this
      simp at this
      exact ⟨i, rfl, this.1, this.2.1, this.2.2⟩
  have := run_make (P := Try.prog) w 23 22 i (.slice none 0 0) Try.underlying23 hi hz .i64 .i64 (n : Int) (n : Int) (by omega) (by omega) (by rw [hby]; omega) (by omega)
  rw [hsz, Nat.mul_one] at this
  simp only [Int.toNat_natCast] at this
  exact ⟨_, size_madeCells _ _, this⟩

/-- the first k rows are copied; B: the new row's block -/
structure Half (w : World) (B k : Nat) (R : List (List Int)) (wr : World) : Prop where
  out : ∃ cur, ∃ f : Nat → Value, wr.heap[B]? = some (.cells cur 22 (0, 0)) ∧ cur.size = R.length ∧
    (∀ i, i < R.length → i < k → cur[i]? = some (f i)) ∧
    (∀ i (h : i < R.length), i < k → OU wr (f i) R[i]) ∧
    (∀ i, i < k → ∀ x ∈ ob (f i), B < x) ∧
    (∀ i j, i < j → j < k → ∀ x ∈ ob (f i), x ∉ ob (f j)) ∧ Below B w wr

theorem Half.step {w wr w2 : World} {B k : Nat} {R : List (List Int)} (h : Half w B k R wr) (hk : k < R.length) {v : Value} (hO : OU w2 v R[k]) (hb : ∀ b, v.ownBlock = some b → wr.heap.size ≤ b) (hbel : Below wr.heap.size wr w2) :
    w2.cell? ⟨B, k, none⟩ = wr.cell? ⟨B, k, none⟩ ∧ w2.frozen? ⟨B, k, none⟩ = false ∧ Half w B (k + 1) R (w2.setCell ⟨B, k, none⟩ v) := by
  obtain ⟨cur, f, h1, h2, h3, h4, h5, h6, h7⟩ := h.out
  have hB := lt_of_some h1
  have hrow : w2.heap[B]? = some (.cells cur 22 (0, 0)) := (hbel.block B hB).trans h1
  refine ⟨by rw [cell_row hrow, cell_row h1], free_row hrow, ⟨cur.setIfInBounds k v, fun i => if i = k then v else f i, row_set _ hrow, by rw [Array.size_setIfInBounds]; exact h2, ?_, ?_, ?_, ?_, ?_⟩⟩
  · intro i hi hik
    dsimp only
    rw [Array.getElem?_setIfInBounds]
    by_cases e : k = i
    · subst e
      rw [if_pos rfl, if_pos (by omega), if_pos rfl]
    · rw [if_neg e, if_neg (fun e' : i = k => e e'.symm)]; exact h3 i hi (by omega)
  · intro i hi hik
    dsimp only
    by_cases e : i = k
    · subst e
      rw [if_pos rfl]
      refine hO.frame fun x hx => Below.heap_setCell _ _ _ _ ?_
      have := hb x (mem_ob.1 hx)
      show x ≠ B
      omega
    · rw [if_neg e]
      refine (h4 i hi (by omega)).frame fun x hx => ?_
      have hx1 := h5 i (by omega) x hx
      have hx2 := (h4 i hi (by omega)).lt x hx
      exact (Below.heap_setCell _ _ _ _ (by show x ≠ B; omega)).trans (hbel.block x hx2)
  · intro i hik x hx
    dsimp only at hx
    by_cases e : i = k
    · rw [if_pos e] at hx
      have := hb x (mem_ob.1 hx); omega
    · rw [if_neg e] at hx; exact h5 i (by omega) x hx
  · intro i j hij hj x hx
    dsimp only at hx
    dsimp only
    rw [if_neg (by omega)] at hx
    by_cases e : j = k
    · rw [if_pos e]
      intro hx2
      have := hb x (mem_ob.1 hx2)
      have := (h4 i (by omega) (by omega)).lt x hx
      omega
    · rw [if_neg e]; exact h6 i j hij (by omega) x hx
  · exact (h7.trans (hbel.mono (by omega))).setCell (Nat.le_refl _) _

set_option maxHeartbeats 1000000 in
theorem clones8 (v : Value) (R : List (List Int)) (w : World) (hr : RdUU w v R) :
    Calls Try.prog 8 #[v] w fun e w' => ∃ v', e = .returned v' ∧ OUU w' w.heap.size v' R ∧ Below w.heap.size w w' := by
  obtain ⟨a, cap, rfl, hl, hc⟩ := hr
  have HC : Hid (∀ i (h : i < R.length), ∃ b off x, a = some ⟨b, off, none⟩ ∧ w.cell? ⟨b, off + i, none⟩ = some x ∧ RdU w x R[i]) := hc
  clear hc
  cases ha : a with
  | none =>
    have h0 : R.length = 0 := by
      by_cases h : 0 < R.length
      · obtain ⟨b, off, x, e, _⟩ := HC.out 0 h; rw [ha] at e; cases e
      · omega
    have hu : R = [] := List.eq_nil_of_length_eq_zero h0
    subst hu
    clear HC ha hl
    have hnil := fun (w : World) => Lib.run_eql_slice_nil (P := Try.prog) w 23 22 none 0 cap 0 0 Try.underlying23
    simp only [Option.isNone_none] at hnil
    go_enter Try.func8, Try.ntmps8
    go_wp2
    go_ret
    exact ⟨.slice none 0 0, rfl, ⟨none, 0, fun _ => .bool false, rfl, by simp, fun i h => absurd h (Nat.not_lt_zero _), fun i h => absurd h (Nat.not_lt_zero _), fun i h => absurd h (Nat.not_lt_zero _), fun i j _ h => absurd h (Nat.not_lt_zero _)⟩, Below.refl _ _⟩
  | some ad =>
    subst ha
    obtain ⟨cur0, hs0, hmk⟩ := make23 w R.length hl
    have hnil := fun (w : World) => Lib.run_eql_slice_nil (P := Try.prog) w 23 22 (some ad) R.length cap 0 0 Try.underlying23
    simp only [Option.isNone_some] at hnil
    have H0 : Hid (Half w w.heap.size 0 R (w.alloc (.cells cur0 22))) := ⟨cur0, fun _ => .bool false, heap_alloc_last _ _, hs0, fun i _ h => absurd h (Nat.not_lt_zero _), fun i _ h => absurd h (Nat.not_lt_zero _), fun i h => absurd h (Nat.not_lt_zero _), fun i j _ h => absurd h (Nat.not_lt_zero _), (Below.refl _ _).alloc (Nat.le_refl _) _⟩
    go_enter Try.func8, Try.ntmps8
    go_wp2
    go_loopw [4] (fun i wr => ∃ k : Nat, k ≤ R.length ∧ i = .int .i64 k ∧ Half w w.heap.size k R wr) (fun i wr => R.length - (intOf i).toNat)
    case atStart => exact ⟨0, by omega, rfl, H0.out⟩
    case round =>
      obtain ⟨k, hk, rfl, hh⟩ := hrel
      have HH : Hid (Half w w.heap.size k R wr) := hh
      obtain ⟨cur, f, hrow, hsz, _, _, _, _, hbel⟩ := hh.out
      by_cases hlt : k < R.length
      · obtain ⟨b, off, x, e, hcell0, hx0⟩ := HC.out k hlt
        obtain rfl := Option.some.inj e
        have hbl : b < w.heap.size := World.block_lt_of_cell? w ⟨b, off + k, none⟩ hcell0
        have hcell : wr.cell? ⟨b, off + k, none⟩ = some x := (hbel.cell (p := ⟨b, off + k, none⟩) hbl).trans hcell0
        have hold : wr.cell? ⟨w.heap.size, k, none⟩ = some cur[k]! := by
          rw [cell_row hrow, getElem!_pos cur k (by rw [hsz]; exact hlt), Array.getElem?_eq_getElem]
        have hx : RdU wr x R[k] := hx0.frame fun y hy => hbel.block y hy
        have hcl : Does 7 #[x] wr fun v' w2 => w2.cell? ⟨w.heap.size, k, none⟩ = some cur[k]! ∧ w2.frozen? ⟨w.heap.size, k, none⟩ = false ∧ Hid (Half w w.heap.size (k + 1) R (w2.setCell ⟨w.heap.size, k, none⟩ v')) :=
          ⟨(clone7s x _ wr hx).out.mono fun e w2 ⟨a', n', c', he, q1, q2, q3⟩ => by
            obtain ⟨r1, r2, r3⟩ := HH.out.step hlt q1 q2 q3
            exact ⟨a', n', c', he, r1.trans hold, r2, r3⟩⟩
        generalize cur[k]! = old at *
        clear hx hx0 hcell0 hold hrow hsz hbel hh hmk hs0 hnil e H0
        go_wp2_with (go_at_call 7; refine (Does.out (by assumption)).mono ?_; rintro e w2 ⟨ra, rn, rc, rfl, hp⟩; obtain ⟨cc1, ff1, HS⟩ := hp)
        go_roundw
        case rel => exact ⟨k + 1, by omega, by go_num, HS.out⟩
        case measure => simp [intOf]; omega
      · clear hrow hsz hbel hh hmk hs0 hnil H0
        go_wp2
        go_ret
        have e : k = R.length := by omega
        subst e
        obtain ⟨cur, f, h1, h2, h3, h4, h5, h6, h7⟩ := HH.out.out
        exact ⟨.slice (some ⟨w.heap.size, 0, none⟩) R.length R.length, rfl, ⟨_, _, f, rfl, hl, fun i hi => ⟨w.heap.size, rfl, Nat.le_refl _, (cell_row h1).trans (h3 i hi hi)⟩, fun i hi => h4 i hi hi, fun i hi x hx => Nat.le_of_lt (h5 i hi x hx), h6⟩, h7⟩

end Go.Proofs.Qxb6613898a
