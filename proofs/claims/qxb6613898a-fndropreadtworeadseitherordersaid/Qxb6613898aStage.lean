import Derived.Test.Qxb6613898aBytes
namespace Go.Proofs.Qxb6613898a
open Go.RowKit
set_option linter.unusedVariables false

/-- a call that returns, by what it leaves -/
structure Ret (f : FuncId) (args : Array Value) (w : World) (Post : Value → World → Prop) : Prop where
  out : Calls Try.prog f args w fun e w' => ∃ v, e = .returned v ∧ Post v w'

/-- all that was there stands -/
structure Gr (a b : World) : Prop where
  bel : Below a.heap.size a b
theorem Gr.refl (a : World) : Gr a a := ⟨Below.refl _ _⟩
theorem Gr.trans {a b c : World} (h : Gr a b) (k : Gr b c) : Gr a c := ⟨h.bel.trans (k.bel.mono h.bel.size)⟩
theorem Gr.blk {a b : World} (h : Gr a b) : ∀ x, x < a.heap.size → b.heap[x]? = a.heap[x]? := h.bel.block
theorem Gr.size {a b : World} (h : Gr a b) : a.heap.size ≤ b.heap.size := h.bel.size
theorem Gr.drawn {a b : World} (h : Drawn a b) : Gr a b := by
  obtain ⟨n, rfl⟩ := h; exact ⟨below_drewN (Below.refl _ _) n⟩
theorem RdU.gr {a b : World} {v : Value} {us : List Int} (h : RdU a v us) (g : Gr a b) : RdU b v us := h.frame g.blk
theorem RdUU.gr {a b : World} {v : Value} {R : List (List Int)} (h : RdUU a v R) (g : Gr a b) : RdUU b v R := h.frame g.blk
theorem OU.gr {a b : World} {v : Value} {us : List Int} (h : OU a v us) (g : Gr a b) : OU b v us := h.framed g.blk
theorem OUU.gr {a b : World} {J : Nat} {v : Value} {R : List (List Int)} (h : OUU a J v R) (g : Gr a b) : OUU b J v R := h.frame g.blk
theorem Node.gr {a b : World} {J N : Nat} {cA cS vA vS vD : Value} {A S : List Int} {es : List Ent} (h : Node a J N cA cS vA vS vD A S es) (g : Gr a b) : Node b J N cA cS vA vS vD A S es := h.frame g.blk

theorem clone_ret {w : World} {v : Value} {us : List Int} (h : RdU w v us) : Ret 7 #[v] w (fun v' w' => OU w' v' us ∧ (∀ x ∈ ob v', w.heap.size ≤ x) ∧ Gr w w') :=
  ⟨(clone7 v us w h).mono fun e w' ⟨v', he, h1, h2, h3⟩ => ⟨v', he, h1, fun x hx => h2 x (mem_ob.1 hx), ⟨h3⟩⟩⟩
theorem clones_ret {w : World} {v : Value} {R : List (List Int)} (h : RdUU w v R) : Ret 8 #[v] w (fun v' w' => OUU w' w.heap.size v' R ∧ Gr w w') :=
  ⟨(clones8 v R w h).mono fun e w' ⟨v', he, h1, h3⟩ => ⟨v', he, h1, ⟨h3⟩⟩⟩

theorem node_of_mk {w w' : World} {J J2 J3 : Nat} {x1 x2 vD : Value} {A S T : List Int} {R : List (List Int)} {f : Nat → Value}
    (hA : OU w x1 A) (bA : ∀ x ∈ ob x1, J ≤ x ∧ x < J2) (hS : OU w x2 S) (bS : ∀ x ∈ ob x2, J2 ≤ x ∧ x < J3)
    (hE : ∀ i (h : i < R.length), OU w (f i) R[i]) (bE : ∀ i, i < R.length → ∀ x ∈ ob (f i), J3 ≤ x) (sE : ∀ i j, i < j → j < R.length → ∀ x ∈ ob (f i), x ∉ ob (f j))
    (hlen : T.length = R.length) (hl : T.length ≤ 1048576) (hJ : J ≤ J2) (hJ2 : J2 ≤ J3) (hJ3 : J3 ≤ w.heap.size)
    (hm : Mk w w.heap.size x1 x2 T f T.length vD w') : Node w' J w.heap.size x1 x2 x1 x2 vD A S (esOf T f R T.length) := by
  have hg : Gr w w' := ⟨hm.bel⟩
  have hD : ∀ x ∈ ob vD, w.heap.size + 1 ≤ x := fun x hx => (hm.own.lt x (mem_ob.1 hx)).1
  have hEl : ∀ i, i < R.length → ∀ x ∈ ob (f i), x < w.heap.size := fun i hi x hx => (hE i hi).lt x hx
  have hAl := hA.lt
  have hSl := hS.lt
  have hmem : ∀ b ∈ (esOf T f R T.length).map (fun e => ob e.v), ∃ i, i < R.length ∧ b = ob (f i) := by
    intro b hb
    obtain ⟨e, he, rfl⟩ := List.mem_map.1 hb
    obtain ⟨i, hi, rfl⟩ := List.mem_iff_getElem.1 he
    rw [esOf_at]
    rw [esOf_len] at hi
    exact ⟨i, by omega, rfl⟩
  refine ⟨hm.row, hA.gr hg, hS.gr hg, due_of_owns R hm.own, ?_, ?_, ?_, by rw [esOf_len]; exact hl⟩
  · intro i hi
    rw [esOf_at]
    have hi' : i < R.length := by rw [esOf_len] at hi; omega
    show OU w' (f i) (R.getD i [])
    rw [List.getD_eq_getElem?_getD, List.getElem?_eq_getElem hi']
    exact (hE i hi').gr hg
  · unfold parts
    rw [List.pairwise_append]
    refine ⟨?_, ?_, ?_⟩
    · refine List.Pairwise.cons ?_ (List.Pairwise.cons ?_ (List.Pairwise.cons ?_ (List.Pairwise.cons ?_ List.Pairwise.nil)))
      · intro b hb x hx hxb
        obtain rfl : x = w.heap.size := List.mem_singleton.1 hx
        simp only [List.mem_cons, List.not_mem_nil, or_false] at hb
        rcases hb with rfl | rfl | rfl
        · have := hD _ hxb; omega
        · have := hAl _ hxb; omega
        · have := hSl _ hxb; omega
      · intro b hb x hx hxb
        have := hD _ hx
        simp only [List.mem_cons, List.not_mem_nil, or_false] at hb
        rcases hb with rfl | rfl
        · have := hAl _ hxb; omega
        · have := hSl _ hxb; omega
      · intro b hb x hx hxb
        have := bA _ hx
        simp only [List.mem_cons, List.not_mem_nil, or_false] at hb
        subst hb
        have := bS _ hxb; omega
      · intro b hb; cases hb
    · rw [List.pairwise_iff_getElem]
      intro i j hi hj hij x hx
      have hj' : j < R.length := by simp [esOf_len] at hj; omega
      simp only [List.getElem_map, esOf_at] at hx ⊢
      exact sE i j hij hj' x hx
    · intro a ha b hb x hx hxb
      obtain ⟨i, hi, rfl⟩ := hmem b hb
      have h1 := bE i hi x hxb
      have h2 := hEl i hi x hxb
      simp only [List.mem_cons, List.not_mem_nil, or_false] at ha
      rcases ha with rfl | rfl | rfl | rfl
      · have := List.mem_singleton.1 hx; omega
      · have := hD _ hx; omega
      · have := bA _ hx; omega
      · have := bS _ hx; omega
  · intro l hl x hx
    unfold parts at hl
    rw [List.mem_append] at hl
    rcases hl with hl | hl
    · simp only [List.mem_cons, List.not_mem_nil, or_false] at hl
      rcases hl with rfl | rfl | rfl | rfl
      · have := List.mem_singleton.1 hx; omega
      · have := hD _ hx; omega
      · have := bA _ hx; omega
      · have := bS _ hx; omega
    · obtain ⟨i, hi, rfl⟩ := hmem l hl
      have := bE i hi x hx; omega

theorem new_ret {w : World} {J J2 J3 : Nat} {x1 x2 x3 x4 : Value} {A S T : List Int} {R : List (List Int)}
    (hA : OU w x1 A) (bA : ∀ x ∈ ob x1, J ≤ x ∧ x < J2) (hS : OU w x2 S) (bS : ∀ x ∈ ob x2, J2 ≤ x ∧ x < J3) (hT : RdU w x3 T) (hR : OUU w J3 x4 R)
    (hlen : T.length = R.length) (hJ : J ≤ J2) (hJ2 : J2 ≤ J3) (hJ3 : J3 ≤ w.heap.size) :
    Ret 9 #[x1, x2, x3, x4] w (fun v w' => v = .pointer (some ⟨w.heap.size, 0, none⟩) ∧ ∃ vD es, Node w' J w.heap.size x1 x2 x1 x2 vD A S es ∧ es.map (·.at_) = T ∧ es.map (·.us) = R ∧ Gr w w') := by
  obtain ⟨aT, cT, rfl, hlT, hcT⟩ := hT
  obtain ⟨aR, cR, f, rfl, hlR, h3, h4, h5, h6⟩ := hR
  rw [← hlen]
  refine ⟨(newNode9 w x1 x2 x1 x2 aT aR T cT cR f hA.isSlice hS.isSlice hcT (fun i hi => ?_) (fun i hi => (h4 i (by omega)).isSlice) hlT).mono fun e w' ⟨he, vD, hm⟩ => ⟨_, he, rfl, vD, _, node_of_mk hA bA hS bS h4 h5 h6 hlen hlT hJ hJ2 hJ3 hm, ?_, ?_, ⟨hm.bel⟩⟩⟩
  · obtain ⟨b, e, _, hc⟩ := h3 i (by omega)
    exact ⟨b, e, hc⟩
  · apply List.ext_getElem
    · simp [esOf_len]
    · intro i h1 h2
      simp only [List.getElem_map, esOf_at]
      rw [List.getD_eq_getElem?_getD, List.getElem?_eq_getElem h2]; rfl
  · apply List.ext_getElem
    · simp [esOf_len, hlen]
    · intro i h1 h2
      simp only [List.getElem_map, esOf_at]
      rw [List.getD_eq_getElem?_getD, List.getElem?_eq_getElem h2]; rfl

theorem upto_maps {d : Int} {es es' : List Ent} (h : Upto d es.length es es') : es'.map (·.at_) = es.map (·.at_) ∧ es'.map (·.us) = (es.map (·.us)).map (·.filter (notD d)) := by
  obtain ⟨h1, h2⟩ := h
  constructor
  · apply List.ext_getElem
    · simp [h1]
    · intro i q1 q2
      simp only [List.getElem_map]
      exact (h2 i (by simpa using q2) (by simpa using q1)).1
  · apply List.ext_getElem
    · simp [h1]
    · intro i q1 q2
      simp only [List.getElem_map]
      have := (h2 i (by simpa using q2) (by simpa using q1)).2
      rw [this, if_pos (by simpa using q2)]

theorem drop_ret {w : World} {J K N : Nat} {vA vS vD : Value} {A S : List Int} {es : List Ent} (d : Int) (h : Node w J N vA vS vA vS vD A S es) (hK : ∀ l ∈ parts N vD vA vS es, ∀ x ∈ l, x < K) :
    Ret 10 #[.pointer (some ⟨N, 0, none⟩), .int .u64 d] w (fun v w' => v = .tuple #[] ∧ ∃ vA' vS' es', Node w' J N vA' vS' vA' vS' vD (A.filter (notD d)) (S.filter (notD d)) es' ∧ es'.map (·.at_) = es.map (·.at_) ∧ es'.map (·.us) = (es.map (·.us)).map (·.filter (notD d)) ∧ (∀ l ∈ parts N vD vA' vS' es', ∀ x ∈ l, x < K) ∧ Out J K w w') :=
  ⟨(dropRead10 w J K N d vA vS vD A S es h hK).mono fun e w' ⟨he, vA', vS', es', h1, h2, h3, h4⟩ => ⟨_, he, rfl, vA', vS', es', h1, (upto_maps h2).1, (upto_maps h2).2, h3, h4⟩⟩

theorem reads_ret {w : World} {J N : Nat} {vA vS vD : Value} {A S : List Int} {es : List Ent} (h : Node w J N vA vS vA vS vD A S es) :
    Ret 11 #[.pointer (some ⟨N, 0, none⟩)] w (fun v w' => ∃ vT vR, v = .tuple #[vA, vS, vT, vR] ∧ RdU w' vT (es.map (·.at_)) ∧ RdUU w' vR (es.map (·.us)) ∧ Gr w w') :=
  ⟨(reads11 w J N vA vS vD A S es h).mono fun e w' ⟨vT, vR, he, hr⟩ => ⟨_, he, vT, vR, rfl, hr.rdT h.few, hr.rdR h.few (fun i hi => ((h.oE i hi).gr ⟨hr.bel⟩).rd), ⟨hr.bel⟩⟩⟩

/-- a node's blocks lie in the world -/
theorem Node.ltsize {w : World} {J N : Nat} {cA cS vA vS vD : Value} {A S : List Int} {es : List Ent} (h : Node w J N cA cS vA vS vD A S es) : ∀ l ∈ parts N vD vA vS es, ∀ x ∈ l, x < w.heap.size := by
  intro l hl x hx
  simp only [parts, List.mem_append, List.mem_cons, List.mem_map, List.not_mem_nil, or_false] at hl
  rcases hl with (rfl | rfl | rfl | rfl) | ⟨e, he, rfl⟩
  · obtain ⟨nc, r1, _⟩ := h.row
    rw [List.mem_singleton] at hx; subst hx; exact lt_of_some r1
  · exact h.due.lt x hx
  · exact h.oA.lt x hx
  · exact h.oS.lt x hx
  · obtain ⟨i, hi, rfl⟩ := List.mem_iff_getElem.1 he
    exact (h.oE i hi).lt x hx
/-- a node stands where its own blocks stand -/
theorem Node.frameP {w w' : World} {J N : Nat} {cA cS vA vS vD : Value} {A S : List Int} {es : List Ent} (h : Node w J N cA cS vA vS vD A S es) (hb : ∀ l ∈ parts N vD vA vS es, ∀ x ∈ l, w'.heap[x]? = w.heap[x]?) : Node w' J N cA cS vA vS vD A S es := by
  have p0 : [N] ∈ parts N vD vA vS es := by simp [parts]
  have p1 : ob vD ∈ parts N vD vA vS es := by simp [parts]
  have p2 : ob vA ∈ parts N vD vA vS es := by simp [parts]
  have p3 : ob vS ∈ parts N vD vA vS es := by simp [parts]
  have p4 : ∀ i (hi : i < es.length), ob es[i].v ∈ parts N vD vA vS es := fun i hi => by simp [parts]; exact .inr (.inr (.inr (.inr ⟨es[i], List.getElem_mem hi, rfl⟩)))
  obtain ⟨⟨nc, r1, r2⟩, oA, oS, due, oE, sep, big, few⟩ := h
  exact ⟨⟨nc, (hb _ p0 N (by simp)).trans r1, r2⟩, oA.frame fun x hx => hb _ p2 x hx, oS.frame fun x hx => hb _ p3 x hx, due.frame fun x hx => hb _ p1 x hx, fun i hi => (oE i hi).frame fun x hx => hb _ (p4 i hi) x hx, sep, big, few⟩

theorem keep_same (d : Int) : keep d d = notD d := by funext x; simp [keep, notD]
theorem filter_twice (us : List Int) (d : Int) : (us.filter (notD d)).filter (notD d) = us.filter (notD d) := by simp [List.filter_filter]
theorem filter_keep (us : List Int) (a b : Int) : (us.filter (notD a)).filter (notD b) = us.filter (keep a b) := by
  rw [List.filter_filter]; congr 1; funext x; simp [keep, notD, Bool.and_comm]
theorem filter_keep' (us : List Int) (a b : Int) : (us.filter (notD b)).filter (notD a) = us.filter (keep a b) := by
  rw [List.filter_filter]; congr 1
end Go.Proofs.Qxb6613898a
