import Derived.Test.Qxb6613898aNewNode
namespace Go.Proofs.Qxb6613898a
open Go.RowKit
set_option linter.unusedVariables false

/-- while the dues are read out -/
structure Rs (w0 : World) (es : List Ent) (k l : Nat) (vT vR : Value) (w : World) : Prop where
  ownT : w.ownsRow w0.heap.size 24 1 vT k ((es.take k).map fun e => Value.int .u64 e.at_)
  ownR : w.ownsRow w0.heap.size 22 1 vR l ((es.take l).map fun e => e.v)
  sep : ∀ b, vT.ownBlock = some b → vR.ownBlock ≠ some b
  bel : Below w0.heap.size w0 w

theorem take_map {α : Type} (es : List Ent) (g : Ent → α) (k : Nat) (h : k < es.length) : (es.take (k + 1)).map g = (es.take k).map g ++ [g es[k]] := by
  rw [List.take_succ_eq_append_getElem h, List.map_append]; rfl

theorem Rs.stepT {w0 w w1 : World} {es : List Ent} {k : Nat} {vT vR : Value} (h : Rs w0 es k k vT vR w) (hk : k < es.length) {o : Obj} {g c : Nat} (hg : (w.alloc o).grownBy w1 vT.ownBlock)
    (ho : w1.ownsRow w0.heap.size 24 1 (.slice (some ⟨g, 0, none⟩) (k + 1) c) (k + 1) ((es.take k).map (fun e => Value.int .u64 e.at_) ++ [.int .u64 es[k].at_])) (hat : vT.ownBlock = some g ∨ g = (w.alloc o).heap.size) :
    Rs w0 es (k + 1) k (.slice (some ⟨g, 0, none⟩) (k + 1) c) vR w1 := by
  have hsz := h.bel.size
  refine ⟨by rw [take_map es _ k hk]; exact ho, ?_, ?_, ?_⟩
  · refine (h.ownR.alloc o).kept hg ?_
    cases e : vR.ownBlock with
    | none => exact .inl rfl
    | some b => exact .inr fun e2 => h.sep b e2.symm e
  · intro b e1 e2
    obtain rfl : g = b := Option.some.inj e1
    rcases hat with e | e
    · exact h.sep g e e2
    · have := (h.ownR.lt g e2).2
      simp at e; omega
  · exact (h.bel.alloc hsz o).grown hg (by simp; omega) (fun x hx => (h.ownT.lt x hx).1)

theorem Rs.stepR {w0 w w1 : World} {es : List Ent} {k : Nat} {vT vR : Value} (h : Rs w0 es (k + 1) k vT vR w) (hk : k < es.length) {o : Obj} {g c : Nat} (hg : (w.alloc o).grownBy w1 vR.ownBlock)
    (ho : w1.ownsRow w0.heap.size 22 1 (.slice (some ⟨g, 0, none⟩) (k + 1) c) (k + 1) ((es.take k).map (fun e => e.v) ++ [es[k].v])) (hat : vR.ownBlock = some g ∨ g = (w.alloc o).heap.size) :
    Rs w0 es (k + 1) (k + 1) vT (.slice (some ⟨g, 0, none⟩) (k + 1) c) w1 := by
  have hsz := h.bel.size
  refine ⟨?_, by rw [take_map es _ k hk]; exact ho, ?_, ?_⟩
  · refine (h.ownT.alloc o).kept hg ?_
    cases e : vT.ownBlock with
    | none => exact .inl rfl
    | some b => exact .inr fun e2 => h.sep b e e2.symm
  · intro b e1 e2
    obtain rfl : g = b := Option.some.inj e2
    rcases hat with e | e
    · exact h.sep g e1 e
    · have := (h.ownT.lt g e1).2
      simp at e; omega
  · exact (h.bel.alloc hsz o).grown hg (by simp; omega) (fun x hx => (h.ownR.lt x hx).1)

theorem owned_at {w : World} {base : Nat} {e : TypeId} {v : Value} {n : Nat} {xs : List Value} (h : w.ownsRow base e 1 v n xs) : ∃ a cap, v = .slice a n cap ∧ ∀ i (hi : i < n) (hx : i < xs.length), ∃ b, a = some ⟨b, 0, none⟩ ∧ w.cell? ⟨b, i, none⟩ = some xs[i] := by
  rcases h.2 with ⟨rfl, rfl⟩ | ⟨g, cap, cur, rfl, hb, hg, hc, hm, hs, ht⟩
  · exact ⟨none, 0, rfl, fun i h => absurd h (Nat.not_lt_zero _)⟩
  · refine ⟨_, cap, rfl, fun i hi hx => ⟨g, rfl, ?_⟩⟩
    rw [cell_row hg, ← Array.getElem?_toList]
    subst ht
    rw [List.getElem_take, ← List.getElem?_eq_getElem]

theorem Rs.rdT {w0 w : World} {es : List Ent} {vT vR : Value} (h : Rs w0 es es.length es.length vT vR w) (hf : es.length ≤ 1048576) : RdU w vT (es.map (·.at_)) := by
  obtain ⟨a, cap, rfl, hc⟩ := owned_at h.ownT
  refine ⟨a, cap, by rw [List.length_map], by rw [List.length_map]; exact hf, fun i hi => ?_⟩
  have hi' : i < es.length := by simpa using hi
  obtain ⟨b, e, q⟩ := hc i hi' (by simpa using hi')
  refine ⟨b, 0, e, ?_⟩
  rw [Nat.zero_add, q]
  simp
theorem Rs.rdR {w0 w : World} {es : List Ent} {vT vR : Value} (h : Rs w0 es es.length es.length vT vR w) (hf : es.length ≤ 1048576) (hE : ∀ i (hi : i < es.length), RdU w es[i].v es[i].us) : RdUU w vR (es.map (·.us)) := by
  obtain ⟨a, cap, rfl, hc⟩ := owned_at h.ownR
  refine ⟨a, cap, by rw [List.length_map], by rw [List.length_map]; exact hf, fun i hi => ?_⟩
  have hi' : i < es.length := by simpa using hi
  obtain ⟨b, e, q⟩ := hc i hi' (by simpa using hi')
  refine ⟨b, 0, es[i].v, e, ?_, ?_⟩
  · rw [Nat.zero_add, q]; simp
  · rw [List.getElem_map]; exact hE i hi'

theorem info22 : ∃ i, Try.prog.info? 22 = some i ∧ i.zero = some (.slice none 0 0) ∧ i.size = 1 ∧ i.bytes = 24 := by
  have := ptr22
  cases hq : Try.prog.info? 22 with
  | none => rw [hq] at this; cases this
  | some i =>
    rw [hq] at this
    simp at this
    exact ⟨i, rfl, this.1, this.2.1, this.2.2⟩
theorem info24 : ∃ i, Try.prog.info? 24 = some i ∧ i.zero = some (.int .u64 0) ∧ i.size = 1 ∧ i.bytes = 8 := by
  have := ptr24
  cases hq : Try.prog.info? 24 with
  | none => rw [hq] at this; cases this
  | some i =>
    rw [hq] at this
    simp at this
    exact ⟨i, rfl, this.1, this.2.1, this.2.2⟩
end Go.Proofs.Qxb6613898a
