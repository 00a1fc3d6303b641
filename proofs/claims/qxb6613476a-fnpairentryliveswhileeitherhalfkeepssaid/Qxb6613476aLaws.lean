import Derived.Test.Qxb6613476aMap
import Derived.RegionTactic
import Derived.ChangeAlike
import Derived.Deep.RegionHeld3
import Derived.Deep.WholeRow
namespace Go.Proofs.Qxb6613476a
open Go.RowKit
set_option linter.unusedVariables false

theorem bcell {W w1 : World} (hb : Below W.heap.size W w1) : (∀ b o, b < W.heap.size → w1.cell? ⟨b, o, none⟩ = W.cell? ⟨b, o, none⟩) ∧ (∀ b o, b < W.heap.size → w1.frozen? ⟨b, o, none⟩ = W.frozen? ⟨b, o, none⟩) :=
  ⟨fun b o h => hb.cell (p := ⟨b, o, none⟩) h, fun b o h => hb.frozen (p := ⟨b, o, none⟩) h⟩
theorem block_below2 {w w1 : World} {o1 o2 : Obj} {B : Nat} (hb : Below ((w.alloc o1).alloc o2).heap.size ((w.alloc o1).alloc o2) w1) (hB : B < w.heap.size) : w1.heap[B]? = w.heap[B]? := by
  rw [hb.block B (by simp; omega), Below.heap_alloc _ _ _ (by simp; omega), Below.heap_alloc _ _ _ hB]
theorem cell_below2 {w w1 : World} {o1 o2 : Obj} {B off : Nat} (hb : Below ((w.alloc o1).alloc o2).heap.size ((w.alloc o1).alloc o2) w1) (hB : B < w.heap.size) : w1.cell? ⟨B, off, none⟩ = w.cell? ⟨B, off, none⟩ :=
  World.cell?_of_block (a := ⟨B, off, none⟩) (block_below2 hb hB)

/-- a whole row, read -/
theorem load_row {w : World} {b : Nat} {c : Array Value} {t : TypeId} (n : Nat) (h : w.heap[b]? = some (.cells c t (0, 0))) (hn : c.size = n) :
    (loadCellsFrom ⟨b, 0, none⟩ 0 n #[]).run Try.prog w = .ok c w := by
  subst hn
  have := run_loadCells_list (P := Try.prog) w ⟨b, 0, none⟩ c.toList (fun j v hv => by
    have hadd : (⟨b, 0, none⟩ : Addr).add j = ⟨b, j, none⟩ := by unfold Addr.add; split <;> simp_all
    rw [hadd, cell_of_row _ _ j c t (0, 0) h]
    simpa using hv)
  simpa [loadCells] using this

theorem at_one {w : World} {o o' : Obj} : ((w.alloc o).alloc o').heap[w.heap.size]? = some o := by
  rw [Below.heap_alloc _ _ _ (by simp)]; exact heap_alloc_last w o

/-- What the map's block, the receiver's field and the key's own block hold. -/
structure Held (B M b : Nat) (kp : Array Value) (st : Option Value) (w : World) : Prop where
  field : w.cell? ⟨B, 2, none⟩ = some (.map (some M))
  map : At (.agg kp) M w st
  row : w.heap[b]? = some (.cells kp 65 (0, 0))
  ltB : B < w.heap.size
  ltb : b < w.heap.size

theorem Held.of_blocks {B M b : Nat} {kp : Array Value} {st : Option Value} {w w' : World} (h : Held B M b kp st w) (hs : w.heap.size ≤ w'.heap.size) (hb : ∀ i, i < w.heap.size → w'.heap[i]? = w.heap[i]?) : Held B M b kp st w' :=
  ⟨(World.cell?_of_block (a := ⟨B, 2, none⟩) (hb B h.ltB)).trans h.field, by rw [At_of_block (hb M (At_lt h.map))]; exact h.map, (hb b h.ltb).trans h.row, Nat.lt_of_lt_of_le h.ltB hs, Nat.lt_of_lt_of_le h.ltb hs⟩
theorem Held.alloc {B M b : Nat} {kp : Array Value} {st : Option Value} {w : World} (h : Held B M b kp st w) (o : Obj) : Held B M b kp st (w.alloc o) :=
  h.of_blocks (by simp) (fun i hi => Below.heap_alloc _ _ _ hi)
theorem Held.drew {B M b : Nat} {kp : Array Value} {st : Option Value} {w : World} (h : Held B M b kp st w) : Held B M b kp st w.drew :=
  h.of_blocks (Nat.le_refl _) (fun i hi => rfl)
theorem Held.below {B M b : Nat} {kp : Array Value} {st : Option Value} {w w' : World} (h : Held B M b kp st w) (hb : Below w.heap.size w w') : Held B M b kp st w' :=
  h.of_blocks hb.size (fun i hi => hb.block i hi)


section
variable {P : Program}
/-! ### an operation by what it does -/
theorem wp_run_load {o : Oper} {a : Act} {w : World} {K : Act → World → Prop} {Q : Exit → Act → World → Prop} (ty : TypeId) (x : Operand) (ho : o.op = .load ty x)
    (p v : Value) (hx : a.eval x = p) (hr : (Instr.loadAt ty p).run P w = .ok v w) (h : K (a.put o.dst v) w) : o.wp P a w K Q := by
  unfold Oper.wp execOp
  simp only [ho, hx, Sem.run_bind, hr, Result.andThen_ok, Sem.run_pure]
  exact h
theorem wp_run_store {o : Oper} {a : Act} {w : World} {K : Act → World → Prop} {Q : Exit → Act → World → Prop} (ty : TypeId) (x y : Operand) (ho : o.op = .store ty x y)
    (p v : Value) (w' : World) (hx : a.eval x = p) (hy : a.eval y = v) (hr : (Instr.storeAt ty p v).run P w = .ok () w') (h : K (a.put o.dst undef) w') : o.wp P a w K Q := by
  unfold Oper.wp execOp
  simp only [ho, hx, hy, Sem.run_bind, hr, Result.andThen_ok, Sem.run_pure]
  exact h
theorem wp_run_mapUpdate {o : Oper} {a : Act} {w : World} {K : Act → World → Prop} {Q : Exit → Act → World → Prop} (t : TypeId) (m x y : Operand) (ho : o.op = .mapUpdate t m x y)
    (mv kv v : Value) (w' : World) (hm : a.eval m = mv) (hx : a.eval x = kv) (hy : a.eval y = v) (hr : (Instr.mapUpdate t mv kv v).run P w = .ok () w') (h : K (a.put o.dst undef) w') : o.wp P a w K Q := by
  unfold Oper.wp execOp
  simp only [ho, hm, hx, hy, Sem.run_bind, hr, Result.andThen_ok, Sem.run_pure]
  exact h
theorem wp_run_delete {o : Oper} {a : Act} {w : World} {K : Act → World → Prop} {Q : Exit → Act → World → Prop} (m x : Operand) (t k : TypeId) (ho : o.op = Op.call { callee := Callee.builtin Builtin.delete, args := #[m, x], argTypes := #[t, k] })
    (mv kv : Value) (w' : World) (hm : a.eval m = mv) (hx : a.eval x = kv) (hr : (Builtin.delete_ #[t, k] o.type #[mv, kv]).run P w = .ok (.tuple #[]) w') (h : K (a.put o.dst (.tuple #[])) w') : o.wp P a w K Q := by
  unfold Oper.wp
  simp [execOp, ho, resolve, invoke, builtin, hm, hx, hr, Result.andThen]
  exact h
theorem wpList_load_gx {ops : Array Oper} {rest : List Oper} {dst : Option Tmp} {x : Operand} {τ : TypeId} {pos : String} {aft : Array Edge} {g : Nat × Bool} {a : Act} {w : World} {Q : Exit → Act → World → Prop} (ty : TypeId)
    (p v : Value) (hw : Region.wanted { dst := dst, op := .load ty x, type := τ, pos := pos, after := aft, guard := some g } (yielded ops a.tmps) = true) (hx : a.eval x = p) (hr : (Instr.loadAt ty p).run P w = .ok v w) (h : wpList P ops Q rest (a.put dst v) w) : wpList P ops Q ({ dst := dst, op := .load ty x, type := τ, pos := pos, after := aft, guard := some g } :: rest) a w :=
  wpList_step fun _ hK => by rw [if_pos hw]; exact wp_run_load ty x rfl p v hx hr (hK _ _ h)
theorem wpList_run_load {ops : Array Oper} {rest : List Oper} {o : Oper} {a : Act} {w : World} {Q : Exit → Act → World → Prop} (hg : o.guard = none) (ty : TypeId) (x : Operand) (ho : o.op = .load ty x)
    (p v : Value) (hx : a.eval x = p) (hr : (Instr.loadAt ty p).run P w = .ok v w) (h : wpList P ops Q rest (a.put o.dst v) w) : wpList P ops Q (o :: rest) a w :=
  wpList_plain hg fun _ hK => wp_run_load ty x ho p v hx hr (hK _ _ h)
theorem wpList_run_store {ops : Array Oper} {rest : List Oper} {o : Oper} {a : Act} {w : World} {Q : Exit → Act → World → Prop} (hg : o.guard = none) (ty : TypeId) (x y : Operand) (ho : o.op = .store ty x y)
    (p v : Value) (w' : World) (hx : a.eval x = p) (hy : a.eval y = v) (hr : (Instr.storeAt ty p v).run P w = .ok () w') (h : wpList P ops Q rest (a.put o.dst undef) w') : wpList P ops Q (o :: rest) a w :=
  wpList_plain hg fun _ hK => wp_run_store ty x y ho p v w' hx hy hr (hK _ _ h)
theorem wpList_load_x {ops : Array Oper} {rest : List Oper} {dst : Option Tmp} {x : Operand} {τ : TypeId} {pos : String} {aft : Array Edge} {a : Act} {w : World} {Q : Exit → Act → World → Prop} (ty : TypeId)
    (p v : Value) (hx : a.eval x = p) (hr : (Instr.loadAt ty p).run P w = .ok v w) (h : wpList P ops Q rest (a.put dst v) w) : wpList P ops Q ({ dst := dst, op := .load ty x, type := τ, pos := pos, after := aft, guard := none } :: rest) a w :=
  wpList_run_load rfl ty x rfl p v hx hr h
theorem wpList_store_x {ops : Array Oper} {rest : List Oper} {dst : Option Tmp} {x y : Operand} {τ : TypeId} {pos : String} {aft : Array Edge} {a : Act} {w : World} {Q : Exit → Act → World → Prop} (ty : TypeId)
    (p v : Value) (w' : World) (hx : a.eval x = p) (hy : a.eval y = v) (hr : (Instr.storeAt ty p v).run P w = .ok () w') (h : wpList P ops Q rest (a.put dst undef) w') : wpList P ops Q ({ dst := dst, op := .store ty x y, type := τ, pos := pos, after := aft, guard := none } :: rest) a w :=
  wpList_run_store rfl ty x y rfl p v w' hx hy hr h
theorem take_x {ops : Array Oper} {Q : Exit → Act → World → Prop} {md : Region.Mode} {S : World → Prop} (i : Nat) {oi : Oper} (v : Value) {fuel : Nat} {listed : Array Bool} {a : Act} {w : World} (hi : ops.toList[i]? = some oi)
    (hs : Region.noSelect ops = true) (hf : Region.free md ops listed i = true) (hr : (Region.ready md ops listed).contains i = true)
    (hQ : ∀ c a w, Q (.panic c) (a.put oi.dst v) w → Q (.panic c) a w) (hy : YieldsIf P ops S oi v a) (hS : S w)
    (h : wpAnyH P md ops Q S fuel (listed.setIfInBounds i true) (a.put oi.dst v) w) : wpAnyH P md ops Q S (fuel + 1) listed a w :=
  wpAnyH_take (by rw [← Array.getElem?_toList]; exact hi) hs hf hr hQ hy hS h
theorem one_x {ops : Array Oper} {Q : Exit → Act → World → Prop} {md : Region.Mode} {S : World → Prop} (i : Nat) {o : Oper} {fuel : Nat} {listed : Array Bool} {a : Act} {w : World} (ho : ops.toList[i]? = some o) (hr : Region.ready md ops listed = [i])
    (h : ∀ K' : Act → World → Prop, Shut (∀ a w, S w → (S w → wpAnyH P md ops Q S fuel (listed.setIfInBounds i true) a w) → K' a w) → if Region.wanted o (yielded ops a.tmps) = true then Oper.wp P o a w K' Q else K' (a.put o.dst undef) w) : wpAnyH P md ops Q S (fuel + 1) listed a w :=
  wpAnyH_ready hr (by simp) (AllReadyH.cons (by rw [← Array.getElem?_toList]; exact ho) h AllReadyH.nil)
theorem yieldsIf_load {ops : Array Oper} {S : World → Prop} {op : Oper} {a : Act} (hw : Region.wanted op (yielded ops a.tmps) = true) (ty : TypeId) (x : Operand) (ho : op.op = .load ty x)
    (p v : Value) (hx : a.eval x = p) (hS : ∀ w, S w → (Instr.loadAt ty p).run P w = .ok v w) : YieldsIf P ops S op v a :=
  .inl ⟨hw, fun w hw' => by
    unfold execOp
    simp only [ho, hx, Sem.run_bind, hS w hw', Result.andThen_ok, Sem.run_pure]⟩
theorem yieldsIf_lookup {ops : Array Oper} {S : World → Prop} {op : Oper} {a : Act} (hw : Region.wanted op (yielded ops a.tmps) = true) (t : TypeId) (x y : Operand) (c : Bool) (ho : op.op = .lookup t x y c)
    (m k v : Value) (hx : a.eval x = m) (hy : a.eval y = k) (hS : ∀ w, S w → (Instr.lookup t m k c).run P w = .ok v w) : YieldsIf P ops S op v a :=
  .inl ⟨hw, fun w hw' => by
    unfold execOp
    simp only [ho, hx, hy, Sem.run_bind, hS w hw', Result.andThen_ok, Sem.run_pure]⟩
end

/-- a whole row, by its block -/
theorem loadAt_row {w : World} {b : Nat} {ty : TypeId} {c : Array Value} {t : TypeId} {d : TypeDesc} (h : w.heap[b]? = some (.cells c t (0, 0))) (hd : d.isRow = true) (hu : Try.prog.underlying ty = some d) (n : Nat) (hi : (Try.prog.info? ty).map (·.size) = some n) (hn : c.size = n) :
    (Instr.loadAt ty (.pointer (some ⟨b, 0, none⟩))).run Try.prog w = .ok (.agg c) w := by
  have e := run_loadAt_mid (P := Try.prog) w b 0 ty c.toList d (fun j v hv => by rw [Nat.zero_add, cell_of_row w b j c t (0, 0) h]; simpa using hv) hu hd (by rw [hi]; simp [hn])
  simpa using e
theorem storeAt_new {w : World} {t : TypeId} {c c' : Array Value} (n : Nat) (hi : (Try.prog.info? t).map (·.size) = some n) (hn : c.size = n) (hn' : c'.size = n) (h1 : c'.all (·.oneCell') = true) :
    (Instr.storeAt t (.pointer (some ⟨w.heap.size, 0, none⟩)) (.agg c')).run Try.prog (w.alloc (.cells c t)) = .ok () (w.alloc (.cells c' t)) :=
  run_storeAt_new w t c c' (by rw [hi, hn']) (by rw [hn, hn']) h1
theorem storeAt_new_drew {w : World} {B : Nat} {t : TypeId} {c c' : Array Value} (hB : B = w.heap.size) (n : Nat) (hi : (Try.prog.info? t).map (·.size) = some n) (hn : c.size = n) (hn' : c'.size = n) (h1 : c'.all (·.oneCell') = true) :
    (Instr.storeAt t (.pointer (some ⟨B, 0, none⟩)) (.agg c')).run Try.prog (w.alloc (.cells c t)).drew = .ok () (w.alloc (.cells c' t)).drew := by
  subst hB; exact storeAt_new (w := w.drew) n hi hn hn' h1
theorem pair_one (a b : WS) : (#[.int .i64 a.st, .int .i64 a.pa, .bool a.ta, .int .i64 a.ps, .int .i64 a.pu, .bool a.sp, .bool a.pd, .int .i64 b.st, .int .i64 b.pa, .bool b.ta, .int .i64 b.ps, .int .i64 b.pu, .bool b.sp, .bool b.pd] : Array Value).all (·.oneCell') = true := by simp [Value.oneCell']
theorem info37 : (Try.prog.info? 37).map (·.size) = some 7 := by kernel_rfl
theorem store37_0 {W : World} {B : Nat} (hB : B = W.heap.size) (s a b : WS) : (Instr.storeAt 37 (.pointer (some ⟨B, 0, none⟩)) (.agg #[.int .i64 s.st, .int .i64 s.pa, .bool s.ta, .int .i64 s.ps, .int .i64 s.pu, .bool s.sp, .bool s.pd])).run Try.prog (W.alloc (.cells #[.int .i64 a.st, .int .i64 a.pa, .bool a.ta, .int .i64 a.ps, .int .i64 a.pu, .bool a.sp, .bool a.pd, .int .i64 b.st, .int .i64 b.pa, .bool b.ta, .int .i64 b.ps, .int .i64 b.pu, .bool b.sp, .bool b.pd] 69)).drew = .ok () (W.alloc (.cells #[.int .i64 s.st, .int .i64 s.pa, .bool s.ta, .int .i64 s.ps, .int .i64 s.pu, .bool s.sp, .bool s.pd, .int .i64 b.st, .int .i64 b.pa, .bool b.ta, .int .i64 b.ps, .int .i64 b.pu, .bool b.sp, .bool b.pd] 69)).drew := by
  subst hB; go_simp
theorem store37_7 {W : World} {B : Nat} (hB : B = W.heap.size) (s a b : WS) : (Instr.storeAt 37 (.pointer (some ⟨B, 7, none⟩)) (.agg #[.int .i64 s.st, .int .i64 s.pa, .bool s.ta, .int .i64 s.ps, .int .i64 s.pu, .bool s.sp, .bool s.pd])).run Try.prog (W.alloc (.cells #[.int .i64 a.st, .int .i64 a.pa, .bool a.ta, .int .i64 a.ps, .int .i64 a.pu, .bool a.sp, .bool a.pd, .int .i64 b.st, .int .i64 b.pa, .bool b.ta, .int .i64 b.ps, .int .i64 b.pu, .bool b.sp, .bool b.pd] 69)).drew = .ok () (W.alloc (.cells #[.int .i64 a.st, .int .i64 a.pa, .bool a.ta, .int .i64 a.ps, .int .i64 a.pu, .bool a.sp, .bool a.pd, .int .i64 s.st, .int .i64 s.pa, .bool s.ta, .int .i64 s.ps, .int .i64 s.pu, .bool s.sp, .bool s.pd] 69)).drew := by
  subst hB; go_simp
theorem load37_at {w : World} {b o : Nat} (s : WS) (h : w.rangeAt b o #[.int .i64 s.st, .int .i64 s.pa, .bool s.ta, .int .i64 s.ps, .int .i64 s.pu, .bool s.sp, .bool s.pd].toList) : (Instr.loadAt 37 (.pointer (some ⟨b, o, none⟩))).run Try.prog w = .ok (.agg #[.int .i64 s.st, .int .i64 s.pa, .bool s.ta, .int .i64 s.ps, .int .i64 s.pu, .bool s.sp, .bool s.pd]) w := by
  have e := run_loadAt_mid (P := Try.prog) w b o 37 _ _ h Try.underlying37 rfl info37
  simpa using e
theorem range_0 {w : World} {B : Nat} (a b : WS) (h : w.heap[B]? = some (.cells #[.int .i64 a.st, .int .i64 a.pa, .bool a.ta, .int .i64 a.ps, .int .i64 a.pu, .bool a.sp, .bool a.pd, .int .i64 b.st, .int .i64 b.pa, .bool b.ta, .int .i64 b.ps, .int .i64 b.pu, .bool b.sp, .bool b.pd] 69 (0, 0))) : w.rangeAt B 0 #[.int .i64 a.st, .int .i64 a.pa, .bool a.ta, .int .i64 a.ps, .int .i64 a.pu, .bool a.sp, .bool a.pd].toList := by
  intro j v hj
  rw [Nat.zero_add, cell_of_row w B j _ _ _ h]
  rcases j with _ | _ | _ | _ | _ | _ | _ | j <;> simp at hj ⊢ <;> exact hj
theorem range_7 {w : World} {B : Nat} (a b : WS) (h : w.heap[B]? = some (.cells #[.int .i64 a.st, .int .i64 a.pa, .bool a.ta, .int .i64 a.ps, .int .i64 a.pu, .bool a.sp, .bool a.pd, .int .i64 b.st, .int .i64 b.pa, .bool b.ta, .int .i64 b.ps, .int .i64 b.pu, .bool b.sp, .bool b.pd] 69 (0, 0))) : w.rangeAt B 7 #[.int .i64 b.st, .int .i64 b.pa, .bool b.ta, .int .i64 b.ps, .int .i64 b.pu, .bool b.sp, .bool b.pd].toList := by
  intro j v hj
  rw [cell_of_row w B (7 + j) _ _ _ h]
  rcases j with _ | _ | _ | _ | _ | _ | _ | j <;> simp at hj ⊢ <;> exact hj

/-- what the regions behind the pair's change read -/
structure Rows3 (B M b6 b8 : Nat) (kp np : Array Value) (w : World) : Prop where
  field : w.cell? ⟨B, 2, none⟩ = some (.map (some M))
  row6 : w.heap[b6]? = some (.cells kp 65 (0, 0))
  row8 : w.heap[b8]? = some (.cells np 69 (0, 0))
theorem lt_of_some {w : World} {b : Nat} {o : Obj} (h : w.heap[b]? = some o) : b < w.heap.size := by
  by_cases c : b < w.heap.size
  · exact c
  · rw [Array.getElem?_eq_none (by omega)] at h; cases h
theorem lt_of_cell {w : World} {b o : Nat} {v : Value} (h : w.cell? ⟨b, o, none⟩ = some v) : b < w.heap.size := World.block_lt_of_cell? w ⟨b, o, none⟩ h
theorem Rows3.of_blocks {B M b6 b8 : Nat} {kp np : Array Value} {w w' : World} (h : Rows3 B M b6 b8 kp np w) (e1 : w'.heap[B]? = w.heap[B]?) (e2 : w'.heap[b6]? = w.heap[b6]?) (e3 : w'.heap[b8]? = w.heap[b8]?) : Rows3 B M b6 b8 kp np w' :=
  ⟨(World.cell?_of_block (a := ⟨B, 2, none⟩) e1).trans h.field, e2.trans h.row6, e3.trans h.row8⟩
theorem Rows3.drew {B M b6 b8 : Nat} {kp np : Array Value} {w : World} (h : Rows3 B M b6 b8 kp np w) : Rows3 B M b6 b8 kp np w.drew := h.of_blocks rfl rfl rfl
theorem Rows3.below {B M b6 b8 : Nat} {kp np : Array Value} {w w' : World} (h : Rows3 B M b6 b8 kp np w) (hb : Below w.heap.size w w') : Rows3 B M b6 b8 kp np w' :=
  h.of_blocks (hb.block _ (lt_of_cell h.field)) (hb.block _ (lt_of_some h.row6)) (hb.block _ (lt_of_some h.row8))
theorem Rows3.turned {B M b6 b8 : Nat} {kp np : Array Value} {w w' : World} {K : Value} {st : Option Value} (h : Rows3 B M b6 b8 kp np w) (hA : At K M w st) (hg : w.grownBy w' (some M)) : Rows3 B M b6 b8 kp np w' := by
  have hm : ∃ es clk, w.heap[M]? = some (.map es clk) := by
    cases st with
    | none => obtain ⟨c, h⟩ := hA; exact ⟨_, _, h⟩
    | some v => obtain ⟨c, b, h⟩ := hA; exact ⟨_, _, h⟩
  obtain ⟨es, clk, hm⟩ := hm
  have n1 : B ≠ M := by
    intro e; subst e; have := h.field; simp [World.cell?, hm] at this
  have n2 : b6 ≠ M := by intro e; subst e; have := h.row6; rw [hm] at this; cases this
  have n3 : b8 ≠ M := by intro e; subst e; have := h.row8; rw [hm] at this; cases this
  exact h.of_blocks (hg.block _ (lt_of_cell h.field) (fun e => n1 (Option.some.inj e))) (hg.block _ (lt_of_some h.row6) (fun e => n2 (Option.some.inj e))) (hg.block _ (lt_of_some h.row8) (fun e => n3 (Option.some.inj e)))
theorem info63 : (Try.prog.info? 63).map (·.size) = some 17 := by kernel_rfl
theorem info65 : (Try.prog.info? 65).map (·.size) = some 17 := by kernel_rfl
theorem info69 : (Try.prog.info? 69).map (·.size) = some 14 := by kernel_rfl
theorem info22 : (Try.prog.info? 22).map (·.size) = some 16 := by kernel_rfl
theorem loadAt_39 {w : World} {b o : Nat} {v : Value} (h : w.cell? ⟨b, o, none⟩ = some v) : (Instr.loadAt 39 (.pointer (some ⟨b, o, none⟩))).run Try.prog w = .ok v w := by
  go_simp

end Go.Proofs.Qxb6613476a
