import Derived.Test.Qxb6613898aNode
import Derived.Deep.DeepCutAuto
import Derived.Deep.RegionWith
namespace Go.Proofs.Qxb6613898a
open Go.RowKit
set_option linter.unusedVariables false

theorem OU.isSlice {w : World} {v : Value} {us : List Int} (h : OU w v us) : ∃ a n c, v = .slice a n c := by
  rcases h with ⟨rfl, _⟩ | ⟨b, cap, cur, rfl, _⟩
  · exact ⟨_, _, _, rfl⟩
  · exact ⟨_, _, _, rfl⟩

/-- a call of 'drop' on v, by what it leaves -/
structure Can (v : Value) (I : Nat) (w : World) (Post : Value → World → Prop) : Prop where
  out : Calls Try.prog 16 #[v, .pointer (some ⟨I, 0, none⟩)] w fun e w' => ∃ a n c, e = .returned (.slice a n c) ∧ Post (.slice a n c) w'

/-- what lies below J or from K on stands -/
structure Out (J K : Nat) (a b : World) : Prop where
  os : b.os = a.os
  tape : b.tape = a.tape
  output : b.output = a.output
  size : a.heap.size ≤ b.heap.size
  block : ∀ x, x < a.heap.size → (x < J ∨ K ≤ x) → b.heap[x]? = a.heap[x]?
theorem Out.refl (J K : Nat) (a : World) : Out J K a a := ⟨rfl, rfl, rfl, Nat.le_refl _, fun _ _ _ => rfl⟩
theorem Out.drew {J K : Nat} {a b : World} (h : Out J K a b) : Out J K a b.drew := ⟨h.os, h.tape, h.output, h.size, h.block⟩
theorem Out.alloc {J K : Nat} {a b : World} (h : Out J K a b) (o : Obj) : Out J K a (b.alloc o) :=
  ⟨h.os, h.tape, h.output, by have := h.size; simp; omega, fun x hx hJ => (Below.heap_alloc _ _ _ (by have := h.size; omega)).trans (h.block x hx hJ)⟩
theorem Out.grown {J K : Nat} {a b c : World} {r : Option Nat} (h : Out J K a b) (hg : b.grownBy c r) (hr : ∀ k, r = some k → J ≤ k ∧ k < K) : Out J K a c := by
  have hb := (Below.refl b.heap.size b)
  refine ⟨hg.os.trans h.os, hg.tape.trans h.tape, hg.output.trans h.output, Nat.le_trans h.size hg.size, fun x hx hJ => (hg.block x (by have := h.size; omega) ?_).trans (h.block x hx hJ)⟩
  intro e
  have := hr x e.symm; omega
theorem Out.setCell {J K : Nat} {a b : World} (h : Out J K a b) {p : Addr} (hp : J ≤ p.block ∧ p.block < K) (v : Value) : Out J K a (b.setCell p v) := by
  refine ⟨h.os, h.tape, h.output, by have := h.size; simpa [World.setCell] using this, fun x hx hJ => ?_⟩
  rw [← h.block x hx hJ]
  simp only [World.setCell, Array.getElem?_modify]
  rw [if_neg (by omega)]
theorem Out.below {J K : Nat} {a b : World} (h : Out J K a b) (hJ : J ≤ a.heap.size) : Below J a b := ⟨h.os, h.tape, h.output, h.size, fun x hx => h.block x (by omega) (.inl hx)⟩

/-- the node while DropRead runs: I: the box of the id -/
structure St (w0 : World) (J K N I : Nat) (d : Int) (cA cS vA vS vD : Value) (A S : List Int) (es : List Ent) (w : World) : Prop where
  node : Node w J N cA cS vA vS vD A S es
  id : w.cell? ⟨I, 0, none⟩ = some (.int .u64 d)
  bel : Out J K w0 w
  lt : ∀ l ∈ parts N vD vA vS es, ∀ x ∈ l, x < I
  ltK : ∀ l ∈ parts N vD vA vS es, ∀ x ∈ l, x < K

section
variable {w0 w : World} {J K N I : Nat} {d : Int} {cA cS vA vS vD : Value} {A S : List Int} {es : List Ent}

theorem St.size (h : St w0 J K N I d cA cS vA vS vD A S es w) : I < w.heap.size := World.block_lt_of_cell? w ⟨I, 0, none⟩ h.id
theorem St.id_kept (h : St w0 J K N I d cA cS vA vS vD A S es w) {w2 : World} {r : Option Nat} (hg : w.grownBy w2 r) (hr : r ≠ some I) : w2.cell? ⟨I, 0, none⟩ = some (.int .u64 d) :=
  (World.cell?_of_block (a := ⟨I, 0, none⟩) (hg.block I h.size (fun e => hr e.symm))).trans h.id
theorem St.drew (h : St w0 J K N I d cA cS vA vS vD A S es w) : St w0 J K N I d cA cS vA vS vD A S es w.drew :=
  ⟨h.node.frame fun _ _ => rfl, h.id, h.bel.drew, h.lt, h.ltK⟩
theorem St.neA (h : St w0 J K N I d cA cS vA vS vD A S es w) : vA.ownBlock ≠ some I := fun e => by
  have := h.lt (ob vA) (by simp [parts]) I (mem_ob.2 e); omega
theorem St.neS (h : St w0 J K N I d cA cS vA vS vD A S es w) : vS.ownBlock ≠ some I := fun e => by
  have := h.lt (ob vS) (by simp [parts]) I (mem_ob.2 e); omega
theorem St.neE (h : St w0 J K N I d cA cS vA vS vD A S es w) (i : Nat) (hi : i < es.length) : es[i].v.ownBlock ≠ some I := fun e => by
  have := h.lt (ob es[i].v) (by simp [parts]; exact .inr (.inr (.inr (.inr ⟨es[i], List.getElem_mem hi, rfl⟩)))) I (mem_ob.2 e); omega
theorem St.Jle (h : St w0 J K N I d cA cS vA vS vD A S es w) : J ≤ w.heap.size := by
  obtain ⟨nc, r1, _⟩ := h.node.row
  have := lt_of_some r1; have := h.node.lo; omega

/-- the cells that the walk reads and writes -/
theorem St.cells (h : St w0 J K N I d cA cS vA vS vD A S es w) : w.cell? ⟨N, 76, none⟩ = some cA ∧ w.cell? ⟨N, 77, none⟩ = some cS ∧ w.cell? ⟨N, 81, none⟩ = some vD ∧ w.frozen? ⟨N, 76, none⟩ = false ∧ w.frozen? ⟨N, 77, none⟩ = false := by
  obtain ⟨nc, r1, r2, r3, r4⟩ := h.node.row
  exact ⟨(cell_row r1).trans r2, (cell_row r1).trans r3, (cell_row r1).trans r4, free_row r1, free_row r1⟩

def PostS (w0 : World) (J K N I : Nat) (d : Int) (cA cS vA vD : Value) (A S : List Int) (es : List Ent) (v : Value) (w : World) : Prop :=
  Hid (St w0 J K N I d cA cS vA v vD A (S.filter (notD d)) es w) ∧ w.cell? ⟨N, 76, none⟩ = some cA ∧ w.cell? ⟨N, 77, none⟩ = some cS ∧ w.frozen? ⟨N, 76, none⟩ = false ∧ w.frozen? ⟨N, 77, none⟩ = false ∧ True
def PostA (w0 : World) (J K N I : Nat) (d : Int) (cA cS vS vD : Value) (A S : List Int) (es : List Ent) (v : Value) (w : World) : Prop :=
  Hid (St w0 J K N I d cA cS v vS vD (A.filter (notD d)) S es w) ∧ w.cell? ⟨N, 76, none⟩ = some cA ∧ w.cell? ⟨N, 77, none⟩ = some cS ∧ w.frozen? ⟨N, 76, none⟩ = false ∧ w.frozen? ⟨N, 77, none⟩ = false ∧ Can vS I w (PostS w0 J K N I d cA cS v vD (A.filter (notD d)) S es)

theorem St.canS (h : St w0 J K N I d cA cS vA vS vD A S es w) : Can vS I w (PostS w0 J K N I d cA cS vA vD A S es) := by
  refine ⟨(drop16 vS S d I w h.node.oS h.id h.neS).mono fun e w' ⟨v', he, hO, hb, hg⟩ => ?_⟩
  obtain ⟨a', n', c', rfl⟩ := hO.isSlice
  refine ⟨a', n', c', he, ?_⟩
  have hst : St w0 J K N I d cA cS vA (.slice a' n' c') vD A (S.filter (notD d)) es w' := by
    refine ⟨h.node.dropS hO hb hg, h.id_kept hg h.neS, h.bel.grown hg (fun k hk => ⟨h.node.loS k hk, h.ltK (ob vS) (by simp [parts]) k (mem_ob.2 hk)⟩), ?_, ?_⟩
    · rw [parts_congr (N := N) (vD := vD) (vA := vA) (vS := vS) (es := es) rfl (ob_congr hb) rfl]; exact h.lt
    · rw [parts_congr (N := N) (vD := vD) (vA := vA) (vS := vS) (es := es) rfl (ob_congr hb) rfl]; exact h.ltK
  obtain ⟨c1, c2, c3, f1, f2⟩ := hst.cells
  exact ⟨hst, c1, c2, f1, f2, trivial⟩
theorem St.canA (h : St w0 J K N I d cA cS vA vS vD A S es w) : Can vA I w (PostA w0 J K N I d cA cS vS vD A S es) := by
  refine ⟨(drop16 vA A d I w h.node.oA h.id h.neA).mono fun e w' ⟨v', he, hO, hb, hg⟩ => ?_⟩
  obtain ⟨a', n', c', rfl⟩ := hO.isSlice
  refine ⟨a', n', c', he, ?_⟩
  have hst : St w0 J K N I d cA cS (.slice a' n' c') vS vD (A.filter (notD d)) S es w' := by
    refine ⟨h.node.dropA hO hb hg, h.id_kept hg h.neA, h.bel.grown hg (fun k hk => ⟨h.node.loA k hk, h.ltK (ob vA) (by simp [parts]) k (mem_ob.2 hk)⟩), ?_, ?_⟩
    · rw [parts_congr (N := N) (vD := vD) (vA := vA) (vS := vS) (es := es) (ob_congr hb) rfl rfl]; exact h.lt
    · rw [parts_congr (N := N) (vD := vD) (vA := vA) (vS := vS) (es := es) (ob_congr hb) rfl rfl]; exact h.ltK
  obtain ⟨c1, c2, c3, f1, f2⟩ := hst.cells
  exact ⟨hst, c1, c2, f1, f2, hst.canS⟩

theorem St.putA (h : St w0 J K N I d cA cS vA vS vD A S es w) (v : Value) : St w0 J K N I d v cS vA vS vD A S es (w.setCell ⟨N, 76, none⟩ v) := by
  refine ⟨h.node.putA v, ?_, h.bel.setCell ⟨h.node.lo, h.ltK [N] (by simp [parts]) N (by simp)⟩ _, h.lt, h.ltK⟩
  rw [World.cell?_setCell_other _ _ _ _ (fun e => by
    have : N = I := congrArg Addr.block e
    have := h.lt [N] (by simp [parts]) N (by simp); omega)]
  exact h.id
theorem St.putS (h : St w0 J K N I d cA cS vA vS vD A S es w) (v : Value) : St w0 J K N I d cA v vA vS vD A S es (w.setCell ⟨N, 77, none⟩ v) := by
  refine ⟨h.node.putS v, ?_, h.bel.setCell ⟨h.node.lo, h.ltK [N] (by simp [parts]) N (by simp)⟩ _, h.lt, h.ltK⟩
  rw [World.cell?_setCell_other _ _ _ _ (fun e => by
    have : N = I := congrArg Addr.block e
    have := h.lt [N] (by simp [parts]) N (by simp); omega)]
  exact h.id

def PostE (w0 : World) (J K N I : Nat) (d : Int) (cA cS vA vS vD : Value) (A S : List Int) (es : List Ent) (bd k : Nat) (a : Int) (old : Value) (us : List Int) (v : Value) (w : World) : Prop :=
  w.cell? ⟨N, 81, none⟩ = some vD ∧ w.cell? ⟨bd, k * 2 + 1, none⟩ = some old ∧ w.frozen? ⟨bd, k * 2 + 1, none⟩ = false ∧ Hid (St w0 J K N I d cA cS vA vS vD A S (es.set k ⟨a, v, us.filter (notD d)⟩) (w.setCell ⟨bd, k * 2 + 1, none⟩ v))

theorem due_cells (h : DueRow w vD es) (bd : Nat) (hbd : vD.ownBlock = some bd) (k : Nat) (hk : k < es.length) : w.cell? ⟨bd, k * 2 + 1, none⟩ = some es[k].v ∧ w.frozen? ⟨bd, k * 2 + 1, none⟩ = false := by
  rcases h with ⟨e, _⟩ | ⟨bd', cap, dc, e, r1, r2, r3, r4⟩
  · rw [e] at hbd; cases hbd
  · rw [e] at hbd
    obtain rfl : bd' = bd := Option.some.inj hbd
    exact ⟨(cell_row r1).trans (r4 k hk).2, free_row r1⟩

theorem St.canE (h : St w0 J K N I d cA cS vA vS vD A S es w) (k : Nat) (hk : k < es.length) (bd : Nat) (hbd : vD.ownBlock = some bd) : Can es[k].v I w (PostE w0 J K N I d cA cS vA vS vD A S es bd k es[k].at_ es[k].v es[k].us) := by
  refine ⟨(drop16 es[k].v es[k].us d I w (h.node.oE k hk) h.id (h.neE k hk)).mono fun e w' ⟨v', he, hO, hb, hg⟩ => ?_⟩
  obtain ⟨a', n', c', rfl⟩ := hO.isSlice
  refine ⟨a', n', c', he, ?_⟩
  obtain ⟨f0, f1, _, _, _⟩ := h.node.others (w2 := w') (4 + k) (by omega) (fun x hx hnx => hg.block x hx (fun e => hnx (by rw [part4 _ _ _ _ _ k hk, mem_ob]; exact e.symm)))
  obtain ⟨nc, r1, r2, r3, r4⟩ := f0 (by omega)
  obtain ⟨q1, q2⟩ := due_cells (f1 (by omega)) bd hbd k hk
  refine ⟨(cell_row r1).trans r4, q1, q2, ?_⟩
  have hid := h.id_kept hg (h.neE k hk)
  have hbdlt : bd < I := h.lt (ob vD) (by simp [parts]) bd (mem_ob.2 hbd)
  have emap : (es.set k ⟨es[k].at_, .slice a' n' c', es[k].us.filter (notD d)⟩).map (fun e => ob e.v) = es.map (fun e => ob e.v) := by
    apply List.ext_getElem (by simp)
    intro j h1 h2
    simp only [List.getElem_map, List.getElem_set]
    split
    · rename_i e; subst e; exact ob_congr hb
    · rfl
  have lts : (∀ l ∈ parts N vD vA vS (es.set k ⟨es[k].at_, .slice a' n' c', es[k].us.filter (notD d)⟩), ∀ x ∈ l, x < I) ∧ (∀ l ∈ parts N vD vA vS (es.set k ⟨es[k].at_, .slice a' n' c', es[k].us.filter (notD d)⟩), ∀ x ∈ l, x < K) := by
    rw [parts_congr (N := N) (vD := vD) (vA := vA) (vS := vS) (es := es) rfl rfl emap]; exact ⟨h.lt, h.ltK⟩
  refine ⟨h.node.dropE k hk hO hb hg bd hbd, ?_, (h.bel.grown hg (fun x hx => ⟨h.node.loE k hk x hx, h.ltK (ob es[k].v) (by simp [parts]; exact .inr (.inr (.inr (.inr ⟨es[k], List.getElem_mem hk, rfl⟩)))) x (mem_ob.2 hx)⟩)).setCell ⟨h.node.loD bd hbd, h.ltK (ob vD) (by simp [parts]) bd (mem_ob.2 hbd)⟩ _, lts.1, lts.2⟩
  · rw [World.cell?_setCell_other _ _ _ _ (fun e => by
      have : bd = I := congrArg Addr.block e
      omega)]
    exact hid
end

/-- the first k dues' reads without d -/
def Upto (d : Int) (k : Nat) (es es' : List Ent) : Prop :=
  es'.length = es.length ∧ ∀ i (h : i < es.length) (h' : i < es'.length), es'[i].at_ = es[i].at_ ∧ es'[i].us = if i < k then es[i].us.filter (notD d) else es[i].us
theorem Upto.zero (d : Int) (es : List Ent) : Upto d 0 es es := ⟨rfl, fun i h h' => ⟨rfl, by rw [if_neg (Nat.not_lt_zero _)]⟩⟩
theorem Upto.step {d : Int} {k : Nat} {es es' : List Ent} (h : Upto d k es es') (hk : k < es.length) (hk' : k < es'.length) (v : Value) : Upto d (k + 1) es (es'.set k ⟨es'[k].at_, v, es'[k].us.filter (notD d)⟩) := by
  obtain ⟨h1, h2⟩ := h
  refine ⟨by simpa using h1, fun i hi hi' => ?_⟩
  have hi2 : i < es'.length := by simpa using hi'
  by_cases e : k = i
  · subst e
    obtain ⟨q1, q2⟩ := h2 k hk hk'
    rw [List.getElem_set_self, if_pos (by omega)]
    rw [if_neg (by omega)] at q2
    exact ⟨q1, by rw [q2]⟩
  · obtain ⟨q1, q2⟩ := h2 i hi hi2
    rw [List.getElem_set_ne e]
    refine ⟨q1, ?_⟩
    rw [q2]
    by_cases c : i < k
    · rw [if_pos c, if_pos (by omega)]
    · rw [if_neg c, if_neg (by omega)]

set_option maxHeartbeats 2000000 in
theorem dropRead10 (w : World) (J K N : Nat) (d : Int) (vA vS vD : Value) (A S : List Int) (es : List Ent) (h : Node w J N vA vS vA vS vD A S es) (hK : ∀ l ∈ parts N vD vA vS es, ∀ x ∈ l, x < K) :
    Calls Try.prog 10 #[.pointer (some ⟨N, 0, none⟩), .int .u64 d] w fun e w' => e = .returned (.tuple #[]) ∧ ∃ vA' vS' es', Node w' J N vA' vS' vA' vS' vD (A.filter (notD d)) (S.filter (notD d)) es' ∧ Upto d es.length es es' ∧ (∀ l ∈ parts N vD vA' vS' es', ∀ x ∈ l, x < K) ∧ Out J K w w' := by
  have hJ : J ≤ w.heap.size := by
    obtain ⟨nc, r1, _⟩ := h.row
    have := lt_of_some r1; have := h.lo; omega
  have hst : St w J K N w.heap.size d vA vS vA vS vD A S es (w.alloc (.cells #[.int .u64 d] 24)) := by
    refine ⟨h.frame fun x hx => Below.heap_alloc _ _ _ hx, World.cell?_alloc_at _ _ _ _ rfl, (Out.refl _ _ _).alloc _, ?_, hK⟩
    intro l hl x hx
    simp only [parts, List.mem_append, List.mem_cons, List.mem_map, List.not_mem_nil, or_false] at hl
    rcases hl with (rfl | rfl | rfl | rfl) | ⟨e, he, rfl⟩
    · obtain ⟨nc, r1, _⟩ := h.row
      rw [List.mem_singleton] at hx; subst hx; exact lt_of_some r1
    · exact h.due.lt x hx
    · exact h.oA.lt x hx
    · exact h.oS.lt x hx
    · obtain ⟨i, hi, rfl⟩ := List.mem_iff_getElem.1 he
      exact (h.oE i hi).lt x hx
  obtain ⟨c1, c2, c3, f1, f2⟩ := hst.cells
  have hcan := hst.drew.canA
  obtain ⟨aD, capD, hvD, haD⟩ : ∃ aD capD, vD = .slice aD es.length capD ∧ (0 < es.length → ∃ bd, aD = some ⟨bd, 0, none⟩) := by
    rcases h.due with ⟨rfl, rfl⟩ | ⟨bd, cap, dc, rfl, _⟩
    · exact ⟨none, 0, rfl, fun h => absurd h (Nat.lt_irrefl _)⟩
    · exact ⟨_, cap, rfl, fun _ => ⟨bd, rfl⟩⟩
  have HAD : Hid (0 < es.length → ∃ bd, aD = some ⟨bd, 0, none⟩) := haD
  have HST : Hid (St w J K N w.heap.size d vA vS vA vS vD A S es (w.alloc (.cells #[.int .u64 d] 24))) := hst
  have hfew := h.few
  have hmf : ∀ (fn : Fn) (first cap : Array Value) (w : World), (Instr.makeFunc fn first cap).run Try.prog w = .ok (.func fn first cap) w := fun _ _ _ _ => rfl
  subst hvD
  have HKK : Hid (∀ l ∈ parts N (.slice aD es.length capD) vA vS es, ∀ x ∈ l, x < K) := hK
  clear h hst haD hK
  go_enter Try.func10, Try.ntmps10
  go_upto_region 3 with fail
  go_cut [11] (fun _ wx => ∃ vA' vS', St w J K N w.heap.size d vA' vS' vA' vS' (.slice aD es.length capD) (A.filter (notD d)) (S.filter (notD d)) es wx)
  case first =>
    clear hfew HAD
    go_region_with (go_at_call 16; refine (Can.out (by assumption)).mono ?_; rintro e w2 ⟨ra, rn, rc, rfl, hp⟩; obtain ⟨HS, cc1, cc2, ff1, ff2, hcan2⟩ := hp)
    all_goals (go_wp2_with fail; go_meet)
    all_goals exact ⟨_, _, (HS.out.putA _).putS _⟩
  case rest =>
    obtain ⟨vA', vS', hst⟩ := hcut
    obtain ⟨c1', c2', c3', _, _⟩ := hst.cells
    have HST' : Hid (St w J K N w.heap.size d vA' vS' vA' vS' (.slice aD es.length capD) (A.filter (notD d)) (S.filter (notD d)) es wc) := hst
    clear hst c1 c2 c3 f1 f2 hcan HST c1' c2'
    go_wp2
    go_loopw [34] (fun i wr => ∃ (k : Nat) (es' : List Ent), k ≤ es.length ∧ i = .int .i64 k ∧ Upto d k es es' ∧ St w J K N w.heap.size d vA' vS' vA' vS' (.slice aD es.length capD) (A.filter (notD d)) (S.filter (notD d)) es' wr) (fun i wr => es.length - (intOf i).toNat)
    case atStart => exact ⟨0, es, by omega, rfl, Upto.zero d es, HST'.out⟩
    case round =>
      obtain ⟨k, es', hk, rfl, hup, hst⟩ := hrel
      have HU : Hid (Upto d k es es') := hup
      have HST2 : Hid (St w J K N w.heap.size d vA' vS' vA' vS' (.slice aD es.length capD) (A.filter (notD d)) (S.filter (notD d)) es' wr) := hst
      obtain ⟨_, _, c3', _, _⟩ := hst.cells
      by_cases hlt : k < es.length
      · obtain ⟨bd, rfl⟩ := HAD.out (by omega)
        have hk' : k < es'.length := by rw [hup.1]; exact hlt
        obtain ⟨q1, q2⟩ := due_cells hst.node.due bd rfl k hk'
        have hcan := hst.drew.canE k hk' bd rfl
        have HUS := HU.out.step hlt hk'
        have HUS : Hid (∀ v, Upto d (k + 1) es (es'.set k ⟨es'[k].at_, v, es'[k].us.filter (notD d)⟩)) := HUS
        clear hst hup HST'
        generalize es'[k] = ek at *
        obtain ⟨at_, v, us⟩ := ek
        dsimp only at *
        go_upto_region 7 with fail
        go_region_with (go_at_call 16; refine (Can.out (by assumption)).mono ?_; rintro e w2 ⟨ra, rn, rc, rfl, hp⟩; obtain ⟨cc1, cc2, ff1, HS⟩ := hp)
        all_goals (go_wp2; go_roundw)
        all_goals first
          | exact ⟨k + 1, _, by omega, by go_num, HUS.out _, HS.out⟩
          | (simp [intOf]; omega)
      · go_wp2
        go_end0
        have e : k = es.length := by omega
        subst e
        exact ⟨rfl, vA', vS', es', HST2.out.node, HU.out, HST2.out.ltK, HST2.out.bel⟩

end Go.Proofs.Qxb6613898a
