import Derived.Test.Qxb6613898aDrop
namespace Go.Proofs.Qxb6613898a
open Go.RowKit
set_option linter.unusedVariables false

/-- the block that a slice's row lies in -/
def ob (v : Value) : List Nat := v.ownBlock.toList
theorem mem_ob {v : Value} {b : Nat} : b ∈ ob v ↔ v.ownBlock = some b := by
  unfold ob; rw [Option.mem_toList]

/-- one due: its slot, its reads' slice, the reads -/
structure Ent where
  at_ : Int
  v : Value
  us : List Int

/-- the row of the dues -/
def DueRow (w : World) (vD : Value) (es : List Ent) : Prop :=
  (vD = .slice none 0 0 ∧ es = []) ∨
  ∃ bd cap dc, vD = .slice (some ⟨bd, 0, none⟩) es.length cap ∧ w.heap[bd]? = some (.cells dc 89 (0, 0)) ∧ dc.size = cap * 2 ∧ es.length ≤ cap ∧ ∀ i (h : i < es.length), dc[i * 2]? = some (.int .u64 es[i].at_) ∧ dc[i * 2 + 1]? = some es[i].v

/-- the blocks of a node's reads -/
def parts (N : Nat) (vD vA vS : Value) (es : List Ent) : List (List Nat) := [[N], ob vD, ob vA, ob vS] ++ es.map (fun e => ob e.v)

/-- cA, cS: what the node's two fields hold; vA, vS: the slices that are meant to lie there -/
structure Node (w : World) (J N : Nat) (cA cS vA vS vD : Value) (A S : List Int) (es : List Ent) : Prop where
  row : ∃ nc, w.heap[N]? = some (.cells nc 87 (0, 0)) ∧ nc[76]? = some cA ∧ nc[77]? = some cS ∧ nc[81]? = some vD
  oA : OU w vA A
  oS : OU w vS S
  due : DueRow w vD es
  oE : ∀ i (h : i < es.length), OU w es[i].v es[i].us
  sep : (parts N vD vA vS es).Pairwise (fun a b => ∀ x ∈ a, x ∉ b)
  big : ∀ l ∈ parts N vD vA vS es, ∀ x ∈ l, J ≤ x
  few : es.length ≤ 1048576

theorem OU.frame {w w' : World} {v : Value} {us : List Int} (h : OU w v us) (hb : ∀ x ∈ ob v, w'.heap[x]? = w.heap[x]?) : OU w' v us := by
  rcases h with ⟨rfl, rfl⟩ | ⟨b, cap, cur, rfl, h1, h2⟩
  · exact .inl ⟨rfl, rfl⟩
  · exact .inr ⟨b, cap, cur, rfl, (hb b (mem_ob.2 rfl)).trans h1, h2⟩
theorem OU.lt {w : World} {v : Value} {us : List Int} (h : OU w v us) : ∀ x ∈ ob v, x < w.heap.size := by
  intro x hx
  rw [mem_ob] at hx
  rcases h with ⟨rfl, rfl⟩ | ⟨b, cap, cur, rfl, h1, h2⟩
  · cases hx
  · obtain rfl : b = x := Option.some.inj hx
    by_cases c : b < w.heap.size
    · exact c
    · rw [Array.getElem?_eq_none (by omega)] at h1; cases h1
theorem DueRow.frame {w w' : World} {v : Value} {es : List Ent} (h : DueRow w v es) (hb : ∀ x ∈ ob v, w'.heap[x]? = w.heap[x]?) : DueRow w' v es := by
  rcases h with ⟨rfl, rfl⟩ | ⟨b, cap, cur, rfl, h1, h2⟩
  · exact .inl ⟨rfl, rfl⟩
  · exact .inr ⟨b, cap, cur, rfl, (hb b (mem_ob.2 rfl)).trans h1, h2⟩
theorem lt_of_some {w : World} {b : Nat} {o : Obj} (h : w.heap[b]? = some o) : b < w.heap.size := by
  by_cases c : b < w.heap.size
  · exact c
  · rw [Array.getElem?_eq_none (by omega)] at h; cases h
theorem DueRow.lt {w : World} {v : Value} {es : List Ent} (h : DueRow w v es) : ∀ x ∈ ob v, x < w.heap.size := by
  intro x hx
  rw [mem_ob] at hx
  rcases h with ⟨rfl, rfl⟩ | ⟨b, cap, cur, rfl, h1, h2⟩
  · cases hx
  · obtain rfl : b = x := Option.some.inj hx
    exact lt_of_some h1

theorem parts_len (N : Nat) (vD vA vS : Value) (es : List Ent) : (parts N vD vA vS es).length = 4 + es.length := by simp [parts]; omega
theorem sep_ne {l : List (List Nat)} (h : l.Pairwise (fun a b => ∀ x ∈ a, x ∉ b)) (i j : Nat) (hi : i < l.length) (hj : j < l.length) (hne : i ≠ j) (x : Nat) (hx : x ∈ l[i]) : x ∉ l[j] := by
  rw [List.pairwise_iff_getElem] at h
  by_cases c : i < j
  · exact h i j hi hj c x hx
  · intro hxj
    exact h j i hj hi (by omega) x hxj hx

/-- all that was there stands -/
theorem Node.frame {w w' : World} {J N : Nat} {cA cS vA vS vD : Value} {A S : List Int} {es : List Ent} (h : Node w J N cA cS vA vS vD A S es) (hb : ∀ x, x < w.heap.size → w'.heap[x]? = w.heap[x]?) : Node w' J N cA cS vA vS vD A S es := by
  obtain ⟨⟨nc, r1, r2⟩, oA, oS, due, oE, sep, big, few⟩ := h
  exact ⟨⟨nc, (hb N (lt_of_some r1)).trans r1, r2⟩, oA.frame fun x hx => hb x (oA.lt x hx), oS.frame fun x hx => hb x (oS.lt x hx), due.frame fun x hx => hb x (due.lt x hx), fun i hi => (oE i hi).frame fun x hx => hb x ((oE i hi).lt x hx), sep, big, few⟩

theorem part0 (N : Nat) (vD vA vS : Value) (es : List Ent) : (parts N vD vA vS es)[0]'(by rw [parts_len]; omega) = [N] := rfl
theorem part1 (N : Nat) (vD vA vS : Value) (es : List Ent) : (parts N vD vA vS es)[1]'(by rw [parts_len]; omega) = ob vD := rfl
theorem part2 (N : Nat) (vD vA vS : Value) (es : List Ent) : (parts N vD vA vS es)[2]'(by rw [parts_len]; omega) = ob vA := rfl
theorem part3 (N : Nat) (vD vA vS : Value) (es : List Ent) : (parts N vD vA vS es)[3]'(by rw [parts_len]; omega) = ob vS := rfl
theorem part4 (N : Nat) (vD vA vS : Value) (es : List Ent) (i : Nat) (h : i < es.length) : (parts N vD vA vS es)[4 + i]'(by rw [parts_len]; omega) = ob es[i].v := by
  unfold parts
  rw [List.getElem_append_right (by simp)]
  simp

section
variable {w : World} {J N : Nat} {cA cS vA vS vD : Value} {A S : List Int} {es : List Ent}
/-- two different parts share no block -/
theorem Node.apart (h : Node w J N cA cS vA vS vD A S es) (i j : Nat) (hi : i < 4 + es.length) (hj : j < 4 + es.length) (hne : i ≠ j) (x : Nat) (hx : x ∈ (parts N vD vA vS es)[i]'(by rw [parts_len]; omega)) : x ∉ (parts N vD vA vS es)[j]'(by rw [parts_len]; omega) :=
  sep_ne h.sep i j _ _ hne x hx

/-- a part's block is written: all others stand -/
theorem Node.others (h : Node w J N cA cS vA vS vD A S es) {w2 : World} (i : Nat) (hi : i < 4 + es.length) (hw : ∀ x, x < w.heap.size → x ∉ (parts N vD vA vS es)[i]'(by rw [parts_len]; omega) → w2.heap[x]? = w.heap[x]?) :
    (i ≠ 0 → ∃ nc, w2.heap[N]? = some (.cells nc 87 (0, 0)) ∧ nc[76]? = some cA ∧ nc[77]? = some cS ∧ nc[81]? = some vD) ∧ (i ≠ 1 → DueRow w2 vD es) ∧ (i ≠ 2 → OU w2 vA A) ∧ (i ≠ 3 → OU w2 vS S) ∧ (∀ j (hj : j < es.length), i ≠ 4 + j → OU w2 es[j].v es[j].us) := by
  refine ⟨fun hne => ?_, fun hne => ?_, fun hne => ?_, fun hne => ?_, fun j hj hne => ?_⟩
  · obtain ⟨nc, r1, r2⟩ := h.row
    exact ⟨nc, (hw N (lt_of_some r1) (h.apart 0 i (by omega) hi (Ne.symm hne) N (by rw [part0]; simp))).trans r1, r2⟩
  · exact h.due.frame fun x hx => hw x (h.due.lt x hx) (h.apart 1 i (by omega) hi (Ne.symm hne) x (by rw [part1]; exact hx))
  · exact h.oA.frame fun x hx => hw x (h.oA.lt x hx) (h.apart 2 i (by omega) hi (Ne.symm hne) x (by rw [part2]; exact hx))
  · exact h.oS.frame fun x hx => hw x (h.oS.lt x hx) (h.apart 3 i (by omega) hi (Ne.symm hne) x (by rw [part3]; exact hx))
  · exact (h.oE j hj).frame fun x hx => hw x ((h.oE j hj).lt x hx) (h.apart (4 + j) i (by omega) hi (Ne.symm hne) x (by rw [part4 _ _ _ _ _ j hj]; exact hx))

theorem parts_congr {vA' vS' : Value} {es' : List Ent} (e1 : ob vA' = ob vA) (e2 : ob vS' = ob vS) (e3 : es'.map (fun e => ob e.v) = es.map (fun e => ob e.v)) : parts N vD vA' vS' es' = parts N vD vA vS es := by
  unfold parts; rw [e1, e2, e3]
theorem ob_congr {v v' : Value} (h : v'.ownBlock = v.ownBlock) : ob v' = ob v := by unfold ob; rw [h]

theorem Node.dropA (h : Node w J N cA cS vA vS vD A S es) {w2 : World} {vA' : Value} {A' : List Int} (hO : OU w2 vA' A') (hb : vA'.ownBlock = vA.ownBlock) (hg : w.grownBy w2 vA.ownBlock) : Node w2 J N cA cS vA' vS vD A' S es := by
  obtain ⟨f0, f1, f2, f3, f4⟩ := h.others (w2 := w2) 2 (by omega) (fun x hx hnx => hg.block x hx (fun e => hnx (by rw [part2, mem_ob]; exact e.symm)))
  have ep := parts_congr (N := N) (vD := vD) (vA := vA) (vS := vS) (es := es) (ob_congr hb) rfl rfl
  exact ⟨f0 (by omega), hO, f3 (by omega), f1 (by omega), fun j hj => f4 j hj (by omega), ep ▸ h.sep, ep ▸ h.big, h.few⟩
theorem Node.dropS (h : Node w J N cA cS vA vS vD A S es) {w2 : World} {vS' : Value} {S' : List Int} (hO : OU w2 vS' S') (hb : vS'.ownBlock = vS.ownBlock) (hg : w.grownBy w2 vS.ownBlock) : Node w2 J N cA cS vA vS' vD A S' es := by
  obtain ⟨f0, f1, f2, f3, f4⟩ := h.others (w2 := w2) 3 (by omega) (fun x hx hnx => hg.block x hx (fun e => hnx (by rw [part3, mem_ob]; exact e.symm)))
  have ep := parts_congr (N := N) (vD := vD) (vA := vA) (vS := vS) (es := es) rfl (ob_congr hb) rfl
  exact ⟨f0 (by omega), f2 (by omega), hO, f1 (by omega), fun j hj => f4 j hj (by omega), ep ▸ h.sep, ep ▸ h.big, h.few⟩

theorem Node.put (h : Node w J N cA cS vA vS vD A S es) {w2 : World} {dA dS : Value} (hrow : ∃ nc, w2.heap[N]? = some (.cells nc 87 (0, 0)) ∧ nc[76]? = some dA ∧ nc[77]? = some dS ∧ nc[81]? = some vD) (hg : ∀ x, x ≠ N → w2.heap[x]? = w.heap[x]?) : Node w2 J N dA dS vA vS vD A S es := by
  obtain ⟨f0, f1, f2, f3, f4⟩ := h.others (w2 := w2) 0 (by omega) (fun x hx hnx => hg x (fun e => hnx (by rw [part0, e]; simp)))
  exact ⟨hrow, f2 (by omega), f3 (by omega), f1 (by omega), fun j hj => f4 j hj (by omega), h.sep, h.big, h.few⟩
theorem Node.putA (h : Node w J N cA cS vA vS vD A S es) (v : Value) : Node (w.setCell ⟨N, 76, none⟩ v) J N v cS vA vS vD A S es := by
  obtain ⟨nc, r1, r2, r3, r4⟩ := h.row
  refine h.put ⟨_, row_set v r1, ?_, ?_, ?_⟩ (fun x hx => Below.heap_setCell _ _ _ _ hx)
  · rw [Array.getElem?_setIfInBounds, if_pos rfl, if_pos]
    by_cases c : 76 < nc.size
    · exact c
    · rw [Array.getElem?_eq_none (by omega)] at r2; cases r2
  · rw [Array.getElem?_setIfInBounds, if_neg (by decide)]; exact r3
  · rw [Array.getElem?_setIfInBounds, if_neg (by decide)]; exact r4
theorem Node.putS (h : Node w J N cA cS vA vS vD A S es) (v : Value) : Node (w.setCell ⟨N, 77, none⟩ v) J N cA v vA vS vD A S es := by
  obtain ⟨nc, r1, r2, r3, r4⟩ := h.row
  refine h.put ⟨_, row_set v r1, ?_, ?_, ?_⟩ (fun x hx => Below.heap_setCell _ _ _ _ hx)
  · rw [Array.getElem?_setIfInBounds, if_neg (by decide)]; exact r2
  · rw [Array.getElem?_setIfInBounds, if_pos rfl, if_pos]
    by_cases c : 77 < nc.size
    · exact c
    · rw [Array.getElem?_eq_none (by omega)] at r3; cases r3
  · rw [Array.getElem?_setIfInBounds, if_neg (by decide)]; exact r4

/-- the reads of due i dropped, and stored back -/
theorem Node.dropE (h : Node w J N cA cS vA vS vD A S es) (i : Nat) (hi : i < es.length) {w2 : World} {v' : Value} {us' : List Int} (hO : OU w2 v' us') (hb : v'.ownBlock = es[i].v.ownBlock) (hg : w.grownBy w2 es[i].v.ownBlock) (bd : Nat) (hbd : vD.ownBlock = some bd) :
    Node (w2.setCell ⟨bd, i * 2 + 1, none⟩ v') J N cA cS vA vS vD A S (es.set i ⟨es[i].at_, v', us'⟩) := by
  obtain ⟨f0, f1, f2, f3, f4⟩ := h.others (w2 := w2) (4 + i) (by omega) (fun x hx hnx => hg.block x hx (fun e => hnx (by rw [part4 _ _ _ _ _ i hi, mem_ob]; exact e.symm)))
  have hmem : bd ∈ ob vD := mem_ob.2 hbd
  have hother : ∀ (j : Nat) (hj : j < 4 + es.length), j ≠ 1 → ∀ x ∈ (parts N vD vA vS es)[j]'(by rw [parts_len]; omega), (w2.setCell ⟨bd, i * 2 + 1, none⟩ v').heap[x]? = w2.heap[x]? := by
    intro j hj hne x hx
    refine Below.heap_setCell _ _ _ _ (fun e => ?_)
    have e' : x = bd := e
    subst e'
    exact h.apart j 1 hj (by omega) hne x hx (by rw [part1]; exact hmem)
  have emap : (es.set i ⟨es[i].at_, v', us'⟩).map (fun e => ob e.v) = es.map (fun e => ob e.v) := by
    apply List.ext_getElem (by simp)
    intro j h1 h2
    simp only [List.getElem_map, List.getElem_set]
    split
    · rename_i e; subst e; exact ob_congr hb
    · rfl
  have ep := parts_congr (N := N) (vD := vD) (vA := vA) (vS := vS) (es := es) (es' := es.set i ⟨es[i].at_, v', us'⟩) rfl rfl emap
  refine ⟨?_, ?_, ?_, ?_, ?_, ep ▸ h.sep, ep ▸ h.big, by simpa using h.few⟩
  · obtain ⟨nc, r1, r2⟩ := f0 (by omega)
    exact ⟨nc, (hother 0 (by omega) (by omega) N (by rw [part0]; simp)).trans r1, r2⟩
  · exact (f2 (by omega)).frame fun x hx => hother 2 (by omega) (by omega) x (by rw [part2]; exact hx)
  · exact (f3 (by omega)).frame fun x hx => hother 3 (by omega) (by omega) x (by rw [part3]; exact hx)
  · rcases f1 (by omega) with ⟨e, _⟩ | ⟨bd', cap, dc, e, r1, r2, r3, r4⟩
    · rw [e] at hbd; cases hbd
    · rw [e] at hbd
      obtain rfl : bd' = bd := Option.some.inj hbd
      refine .inr ⟨bd', cap, dc.setIfInBounds (i * 2 + 1) v', by rw [e]; simp, row_set _ r1, by rw [Array.size_setIfInBounds]; exact r2, by simpa using r3, fun j hj => ?_⟩
      have hj' : j < es.length := by simpa using hj
      obtain ⟨q1, q2⟩ := r4 j hj'
      rw [Array.getElem?_setIfInBounds, Array.getElem?_setIfInBounds, if_neg (by omega)]
      by_cases c : i = j
      · subst c
        rw [if_pos rfl, if_pos (by rw [r2]; omega)]
        simp only [List.getElem_set_self]
        exact ⟨q1, trivial⟩
      · rw [if_neg (by omega), List.getElem_set_ne c]
        exact ⟨q1, q2⟩
  · intro j hj
    have hj' : j < es.length := by simpa using hj
    by_cases c : i = j
    · subst c
      rw [List.getElem_set_self]
      exact hO.frame fun x hx => hother (4 + i) (by omega) (by omega) x (by rw [part4 _ _ _ _ _ i hi, ← ob_congr hb]; exact hx)
    · rw [List.getElem_set_ne c]
      exact (f4 j hj' (by omega)).frame fun x hx => hother (4 + j) (by omega) (by omega) x (by rw [part4 _ _ _ _ _ j hj']; exact hx)

theorem Node.lo (h : Node w J N cA cS vA vS vD A S es) : J ≤ N := h.big [N] (by simp [parts]) N (by simp)
theorem Node.loA (h : Node w J N cA cS vA vS vD A S es) (b : Nat) (hb : vA.ownBlock = some b) : J ≤ b := h.big (ob vA) (by simp [parts]) b (mem_ob.2 hb)
theorem Node.loS (h : Node w J N cA cS vA vS vD A S es) (b : Nat) (hb : vS.ownBlock = some b) : J ≤ b := h.big (ob vS) (by simp [parts]) b (mem_ob.2 hb)
theorem Node.loD (h : Node w J N cA cS vA vS vD A S es) (b : Nat) (hb : vD.ownBlock = some b) : J ≤ b := h.big (ob vD) (by simp [parts]) b (mem_ob.2 hb)
theorem Node.loE (h : Node w J N cA cS vA vS vD A S es) (i : Nat) (hi : i < es.length) (b : Nat) (hb : es[i].v.ownBlock = some b) : J ≤ b :=
  h.big (ob es[i].v) (by simp [parts]; exact .inr (.inr (.inr (.inr ⟨es[i], List.getElem_mem hi, rfl⟩)))) b (mem_ob.2 hb)
end

end Go.Proofs.Qxb6613898a
