import Derived.Test.Qxb6613476aRows
import Derived.WalkKit
import Derived.ProofKit
import Derived.WalkLawsBesides
import Derived.Maps.OwnSet
namespace Go.Proofs.Qxb6613476a
open Go.RowKit Go.WideMaps
set_option linter.unusedVariables false

theorem laidOut : laidOutB Try.prog = true := by kernel_rfl
theorem law65 : KeyLaw Try.prog 65 := deep_law_laid (m := 4) laidOut (by decide) (of_decide_eq_true (by kernel_rfl)) (by kernel_rfl) (by kernel_rfl)

theorem keyOf65 (k0 k1 k2 k3 k4 k5 k6 k7 k8 k9 k10 k11 k12 k13 k14 k15 : Int) (p : Int)
    (wk0 : (Lit.int .u8 k0).wf = true)
    (wk1 : (Lit.int .u8 k1).wf = true)
    (wk2 : (Lit.int .u8 k2).wf = true)
    (wk3 : (Lit.int .u8 k3).wf = true)
    (wk4 : (Lit.int .u8 k4).wf = true)
    (wk5 : (Lit.int .u8 k5).wf = true)
    (wk6 : (Lit.int .u8 k6).wf = true)
    (wk7 : (Lit.int .u8 k7).wf = true)
    (wk8 : (Lit.int .u8 k8).wf = true)
    (wk9 : (Lit.int .u8 k9).wf = true)
    (wk10 : (Lit.int .u8 k10).wf = true)
    (wk11 : (Lit.int .u8 k11).wf = true)
    (wk12 : (Lit.int .u8 k12).wf = true)
    (wk13 : (Lit.int .u8 k13).wf = true)
    (wk14 : (Lit.int .u8 k14).wf = true)
    (wk15 : (Lit.int .u8 k15).wf = true)
    (wp : (Lit.int .u8 p).wf = true) : ∃ l, keyOf Try.prog 65 (.agg #[.int .u8 k0, .int .u8 k1, .int .u8 k2, .int .u8 k3, .int .u8 k4, .int .u8 k5, .int .u8 k6, .int .u8 k7, .int .u8 k8, .int .u8 k9, .int .u8 k10, .int .u8 k11, .int .u8 k12, .int .u8 k13, .int .u8 k14, .int .u8 k15, .int .u8 p]) = some l := by
  have c65 : Try.prog.cellsOf 65 = 17 := by kernel_rfl
  have c54 : Try.prog.cellsOf 54 = 16 := by kernel_rfl
  have c5 : Try.prog.cellsOf 5 = 1 := by kernel_rfl
  have kt : Try.prog.keyType 65 = true := by kernel_rfl
  obtain ⟨d, hd⟩ : ∃ d, Try.prog.types.size + 1 = d + 3 := ⟨Try.prog.types.size - 2, by decide +kernel⟩
  unfold keyOf
  rw [hd]
  simp [Try.underlying65, Try.underlying54, Try.underlying5, kt, Value.formed, Value.cells, c65, c54, c5, Program.keyLits, List.range_succ, wk0, wk1, wk2, wk3, wk4, wk5, wk6, wk7, wk8, wk9, wk10, wk11, wk12, wk13, wk14, wk15, wp]

/-- the zero pair -/
abbrev zeroPair : Value := .agg #[.int .i64 0, .int .i64 0, .bool false, .int .i64 0, .int .i64 0, .bool false, .bool false, .int .i64 0, .int .i64 0, .bool false, .int .i64 0, .int .i64 0, .bool false, .bool false]
theorem zero69 (w : World) : (zeroValue 69).run Try.prog w = .ok zeroPair w := by kernel_rfl

/-- The map holds at most the one key K. -/
def At (K : Value) (M : Nat) (w : World) : Option Value → Prop
  | .none => ∃ clk, w.heap[M]? = some (.map #[] clk)
  | some v => ∃ clk born, w.heap[M]? = some (.map #[⟨K, v, born⟩] clk)

theorem find_none {K : Value} {l : Lit} (hK : keyOf Try.prog 65 K = some l) (w : World) : (Instr.findKey 65 K []).run Try.prog w = .ok none w := by
  rcases law65.find w hK [] (by simp) with ⟨h, _⟩ | ⟨j, e, _, h, _⟩
  · exact h
  · simp at h

theorem find_one {K : Value} {l : Lit} (hK : keyOf Try.prog 65 K = some l) (v : Value) (born : Nat) (w : World) : (Instr.findKey 65 K [⟨K, v, born⟩]).run Try.prog w = .ok (some (0, v)) w := by
  rcases law65.find w hK [⟨K, v, born⟩] (by intro e he; simp at he; subst he; exact ⟨l, hK⟩) with ⟨_, h⟩ | ⟨j, e, h, hj, _⟩
  · exact absurd rfl (h ⟨K, v, born⟩ (by simp))
  · have : j = 0 := by
      cases j with
      | zero => rfl
      | succ j => simp at hj
    subst this
    simp at hj
    subst hj
    exact h

theorem look_none {K : Value} {l : Lit} (hK : keyOf Try.prog 65 K = some l) {w : World} {M : Nat} (h : At K M w .none) (c : Bool) :
    (Instr.lookup 39 (.map (some M)) K c).run Try.prog w = .ok (if c then .tuple #[zeroPair, .bool false] else zeroPair) w := by
  obtain ⟨clk, hb⟩ := h
  simp [Instr.lookup, run_underlying Try.underlying39, MapKept.run_getObj_map hb, law65.check w _ hK, find_none hK, Result.andThen]

theorem look_one {K : Value} {l : Lit} (hK : keyOf Try.prog 65 K = some l) {w : World} {M : Nat} {v : Value} (h : At K M w (some v)) (c : Bool) :
    (Instr.lookup 39 (.map (some M)) K c).run Try.prog w = .ok (if c then .tuple #[v, .bool true] else v) w := by
  obtain ⟨clk, born, hb⟩ := h
  simp [Instr.lookup, run_underlying Try.underlying39, MapKept.run_getObj_map hb, law65.check w _ hK, find_one hK, Result.andThen]

/-- the world with another object at block M -/
def setM (w : World) (M : Nat) (o : Obj) : World := { w with heap := w.heap.setIfInBounds M o }

theorem setM_at {w : World} {M : Nat} {o o' : Obj} (h : w.heap[M]? = some o) : (setM w M o').heap[M]? = some o' := by
  have hM : M < w.heap.size := by
    by_cases c : M < w.heap.size
    · exact c
    · rw [Array.getElem?_eq_none (by omega)] at h; cases h
  unfold setM
  simp [hM]

theorem setM_grown (w : World) (M : Nat) (o : Obj) : w.grownBy (setM w M o) (some M) := by
  refine ⟨rfl, rfl, rfl, by simp [setM], fun k hk hne => ?_⟩
  have : M ≠ k := fun e => hne (by rw [e])
  unfold setM
  simp [this]

def upd (K v : Value) (M : Nat) (w : World) : World := match w.heap[M]? with
  | some (.map es clk) => setM w M (match es.toList with
    | [] => .map #[⟨K, v, clk⟩] (clk + 1)
    | e :: _ => .map #[⟨K, v, e.born⟩] clk)
  | _ => w
def drp (M : Nat) (w : World) : World := match w.heap[M]? with
  | some (.map _ clk) => setM w M (.map #[] clk)
  | _ => w

theorem store_any {K : Value} {l : Lit} (hK : keyOf Try.prog 65 K = some l) {w : World} {M : Nat} {s : Option Value} (h : At K M w s) (v : Value) :
    (Instr.mapUpdate 39 (.map (some M)) K v).run Try.prog w = .ok () (upd K v M w) ∧ At K M (upd K v M w) (some v) ∧ w.grownBy (upd K v M w) (some M) := by
  cases s with
  | none =>
    obtain ⟨clk, hb⟩ := h
    have e : upd K v M w = setM w M (.map #[⟨K, v, clk⟩] (clk + 1)) := by simp [upd, hb]
    rw [e]
    refine ⟨?_, ⟨clk + 1, clk, setM_at hb⟩, setM_grown _ _ _⟩
    simp [Instr.mapUpdate, run_underlying Try.underlying39, MapKept.run_getObj_map hb, law65.check w _ hK, find_none hK, MapKept.run_setObj_map _ hb, Result.andThen, setM]
  | some u =>
    obtain ⟨clk, born, hb⟩ := h
    have e : upd K v M w = setM w M (.map #[⟨K, v, born⟩] clk) := by simp [upd, hb]
    rw [e]
    refine ⟨?_, ⟨clk, born, setM_at hb⟩, setM_grown _ _ _⟩
    simp [Instr.mapUpdate, run_underlying Try.underlying39, MapKept.run_getObj_map hb, law65.check w _ hK, find_one hK, law65.stays w hK, MapKept.run_setObj_map _ hb, Result.andThen, setM]

theorem drop_any {K : Value} {l : Lit} (hK : keyOf Try.prog 65 K = some l) {w : World} {M : Nat} {s : Option Value} (h : At K M w s) (t : TypeId) :
    (Builtin.delete_ #[39, 65] t #[.map (some M), K]).run Try.prog w = .ok (.tuple #[]) (drp M w) ∧ At K M (drp M w) .none ∧ w.grownBy (drp M w) (some M) := by
  cases s with
  | none =>
    obtain ⟨clk, hb⟩ := h
    have e : drp M w = setM w M (.map #[] clk) := by simp [drp, hb]
    rw [e]
    refine ⟨?_, ⟨clk, setM_at hb⟩, setM_grown _ _ _⟩
    simp [Builtin.delete_, run_underlying Try.underlying39, MapKept.run_getObj_map hb, law65.check w _ hK, find_none hK, MapKept.run_setObj_map _ hb, Result.andThen, setM]
  | some u =>
    obtain ⟨clk, born, hb⟩ := h
    have e : drp M w = setM w M (.map #[] clk) := by simp [drp, hb]
    rw [e]
    refine ⟨?_, ⟨clk, setM_at hb⟩, setM_grown _ _ _⟩
    simp [Builtin.delete_, run_underlying Try.underlying39, MapKept.run_getObj_map hb, law65.check w _ hK, find_one hK, MapKept.run_setObj_map _ hb, Result.andThen, setM]

theorem len_any {K : Value} {w : World} {M : Nat} {s : Option Value} (h : At K M w s) (t : TypeId) :
    (Builtin.len_ #[39] t #[.map (some M)]).run Try.prog w = .ok (.int .i64 (if s.isSome then 1 else 0)) w := by
  cases s with
  | none =>
    obtain ⟨clk, hb⟩ := h
    simp [Builtin.len_, run_underlying Try.underlying39, MapKept.run_getObj_map hb, Result.andThen, goInt]
  | some u =>
    obtain ⟨clk, born, hb⟩ := h
    simp [Builtin.len_, run_underlying Try.underlying39, MapKept.run_getObj_map hb, Result.andThen, goInt]

theorem At_of_block {K : Value} {M : Nat} {w w' : World} {s : Option Value} (h : w'.heap[M]? = w.heap[M]?) : At K M w' s = At K M w s := by
  cases s <;> simp only [At, h]
theorem At_lt {K : Value} {M : Nat} {w : World} {s : Option Value} (h : At K M w s) : M < w.heap.size := by
  by_cases c : M < w.heap.size
  · exact c
  · have e : w.heap[M]? = none := Array.getElem?_eq_none (by omega)
    cases s with
    | none => obtain ⟨_, hb⟩ := h; rw [e] at hb; cases hb
    | some _ => obtain ⟨_, _, hb⟩ := h; rw [e] at hb; cases hb
theorem At_alloc {K : Value} {M : Nat} {w : World} {s : Option Value} (o : Obj) (h : M < w.heap.size) : At K M (w.alloc o) s = At K M w s :=
  At_of_block (Below.heap_alloc _ _ _ h)
theorem At_drew {K : Value} {M : Nat} {w : World} {s : Option Value} : At K M w.drew s = At K M w s := At_of_block rfl
theorem At_below {K : Value} {M : Nat} {w w' : World} {s : Option Value} (hA : At K M w s) (h : Below w.heap.size w w') : At K M w' s := by
  rw [At_of_block (h.block M (At_lt hA))]; exact hA

theorem grown_of_below {w w' : World} (M : Nat) (h : Below w.heap.size w w') : w.grownBy w' (some M) := ⟨h.os, h.tape, h.output, h.size, fun k hk _ => h.block k hk⟩
theorem grown_trans {a b c : World} {M : Nat} (h : a.grownBy b (some M)) (k : b.grownBy c (some M)) : a.grownBy c (some M) :=
  ⟨k.os.trans h.os, k.tape.trans h.tape, k.output.trans h.output, Nat.le_trans h.size k.size, fun i hi hne => (k.block i (Nat.lt_of_lt_of_le hi h.size) hne).trans (h.block i hi hne)⟩
theorem grown_drew {a b : World} {M : Nat} (h : a.grownBy b (some M)) : a.grownBy b.drew (some M) := ⟨h.os, h.tape, h.output, h.size, h.block⟩

/-! ### the plain pair -/
structure WS where
  st : Int
  pa : Int
  ta : Bool
  ps : Int
  pu : Int
  sp : Bool
  pd : Bool

def WS.zero : WS := ⟨0, 0, false, 0, 0, false, false⟩
def WS.keeps (s : WS) : Bool := s.ta || s.pd
def pairV (x : WS × WS) : Value := .agg #[.int .i64 x.1.st, .int .i64 x.1.pa, .bool x.1.ta, .int .i64 x.1.ps, .int .i64 x.1.pu, .bool x.1.sp, .bool x.1.pd, .int .i64 x.2.st, .int .i64 x.2.pa, .bool x.2.ta, .int .i64 x.2.ps, .int .i64 x.2.pu, .bool x.2.sp, .bool x.2.pd]
def put (at_ : Int) (s : WS) (o : Option (WS × WS)) : Option (WS × WS) :=
  let old := o.getD (.zero, .zero)
  let new := if at_ = 0 then (s, old.2) else (old.1, s)
  if new.1.keeps || new.2.keeps then some new else .none

end Go.Proofs.Qxb6613476a
