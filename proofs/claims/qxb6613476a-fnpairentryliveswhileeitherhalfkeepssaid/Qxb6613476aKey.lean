import Derived.Test.Qxb6613476aWin
import Derived.Test.Qxb6613476aSmall
namespace Go.Proofs.Qxb6613476a
open Go.RowKit
set_option linter.unusedVariables false

/-- the partner's number: 'n ^ 1' -/
def flip (n : Int) : Int := if n % 2 = 0 then n + 1 else n - 1
theorem flip_nat : ∀ m : Fin 256, IntKind.u8.wrap ((BitVec.ofInt 8 (m.val : Int) ^^^ BitVec.ofInt 8 1).toNat : Int) = flip (m.val : Int) := by decide +kernel
theorem xor_run (n : Int) (hn : 0 ≤ n) (hn' : n ≤ 255) (t : TypeId) : binOp .xor t (.int .u8 n) (.int .u8 1) = pure (.int .u8 (flip n)) := by
  have e := flip_nat ⟨n.toNat, by omega⟩
  have e2 : ((n.toNat : Nat) : Int) = n := by omega
  simp only [e2] at e
  rw [← e]
  rfl

/-- what the tallies' memory holds -/
structure Sit (b0 B M : Nat) (kc kp : Array Value) (o : Option (WS × WS)) (w : World) : Prop where
  row : w.heap[b0]? = some (.cells kc 22 (0, 0))
  field : w.cell? ⟨B, 2, none⟩ = some (.map (some M))
  map : At (.agg kp) M w (o.map pairV)

theorem Sit.below {b0 B M : Nat} {kc kp : Array Value} {o : Option (WS × WS)} {w w' : World} (h : Sit b0 B M kc kp o w) (hb : Below w.heap.size w w') : Sit b0 B M kc kp o w' :=
  ⟨(hb.block _ (lt_of_some h.row)).trans h.row, (World.cell?_of_block (a := ⟨B, 2, none⟩) (hb.block _ (lt_of_cell h.field))).trans h.field, At_below h.map hb⟩

theorem Sit.turned {b0 B M : Nat} {kc kp : Array Value} {o o' : Option (WS × WS)} {w w' : World} (h : Sit b0 B M kc kp o w) (hA : At (.agg kp) M w' (o'.map pairV)) (hg : w.grownBy w' (some M)) : Sit b0 B M kc kp o' w' := by
  have hm : ∃ es clk, w.heap[M]? = some (.map es clk) := by
    have hA0 := h.map
    cases o with
    | none => obtain ⟨c, h⟩ := hA0; exact ⟨_, _, h⟩
    | some v => obtain ⟨c, b, h⟩ := hA0; exact ⟨_, _, h⟩
  obtain ⟨es, clk, hm⟩ := hm
  have n1 : B ≠ M := by
    intro e; subst e; have := h.field; simp [World.cell?, hm] at this
  have n2 : b0 ≠ M := by intro e; subst e; have := h.row; rw [hm] at this; cases this
  exact ⟨(hg.block _ (lt_of_some h.row) (fun e => n2 (Option.some.inj e))).trans h.row, (World.cell?_of_block (a := ⟨B, 2, none⟩) (hg.block _ (lt_of_cell h.field) (fun e => n1 (Option.some.inj e)))).trans h.field, hA⟩

/-- a window of the pair p -/
structure Num (p n : Int) : Prop where
  lo : 0 ≤ n
  hi : n ≤ 255
  half : n / 2 = p

/-- what is read at n's place -/
structure Reads (n : Int) (o : Option (WS × WS)) (g : WS) (ok : Bool) : Prop where
  val : g = half (n % 2) (o.getD (.zero, .zero))
  ok : ok = o.isSome

/-- what a set at n's place leaves -/
structure Puts (n : Int) (s : WS) (o o' : Option (WS × WS)) : Prop where
  out : o' = put (n % 2) s o

/-- all that the walks below want of the key -/
structure KeyOK (kc kp : Array Value) (p : Int) : Prop where
  size : kc.size = 16
  set : ∀ (n : Int) (s : WS) (o o' : Option (WS × WS)) (b0 B M : Nat) (w : World), Num p n → Puts n s o o' → Sit b0 B M kc kp o w → Calls Try.prog 7 #[.pointer (some ⟨B, 0, none⟩), .agg kc, .int .u8 n, .int .i64 s.st, .int .i64 s.pa, .bool s.ta, .int .i64 s.ps, .int .i64 s.pu, .bool s.sp, .bool s.pd] w fun e w' => e = .returned (.tuple #[]) ∧ Sit b0 B M kc kp o' w' ∧ w.grownBy w' (some M)
  win : ∀ (n : Int) (o : Option (WS × WS)) (g : WS) (ok : Bool) (b0 B M : Nat) (w : World), Num p n → Reads n o g ok → Sit b0 B M kc kp o w → Calls Try.prog 9 #[.pointer (some ⟨B, 0, none⟩), .agg kc, .int .u8 n] w fun e w' => e = .returned (.tuple #[.bool ok, .int .i64 g.st, .int .i64 g.pa, .bool g.ta, .int .i64 g.ps, .int .i64 g.pu, .bool g.sp, .bool g.pd]) ∧ Sit b0 B M kc kp o w' ∧ Below w.heap.size w w'

theorem keyOK (k0 k1 k2 k3 k4 k5 k6 k7 k8 k9 k10 k11 k12 k13 k14 k15 : Int) (wk0 : (Lit.int .u8 k0).wf = true) (wk1 : (Lit.int .u8 k1).wf = true) (wk2 : (Lit.int .u8 k2).wf = true) (wk3 : (Lit.int .u8 k3).wf = true) (wk4 : (Lit.int .u8 k4).wf = true) (wk5 : (Lit.int .u8 k5).wf = true) (wk6 : (Lit.int .u8 k6).wf = true) (wk7 : (Lit.int .u8 k7).wf = true) (wk8 : (Lit.int .u8 k8).wf = true) (wk9 : (Lit.int .u8 k9).wf = true) (wk10 : (Lit.int .u8 k10).wf = true) (wk11 : (Lit.int .u8 k11).wf = true) (wk12 : (Lit.int .u8 k12).wf = true) (wk13 : (Lit.int .u8 k13).wf = true) (wk14 : (Lit.int .u8 k14).wf = true) (wk15 : (Lit.int .u8 k15).wf = true) (n : Int) (hn : 0 ≤ n) (hn' : n ≤ 255) : KeyOK #[.int .u8 k0, .int .u8 k1, .int .u8 k2, .int .u8 k3, .int .u8 k4, .int .u8 k5, .int .u8 k6, .int .u8 k7, .int .u8 k8, .int .u8 k9, .int .u8 k10, .int .u8 k11, .int .u8 k12, .int .u8 k13, .int .u8 k14, .int .u8 k15] #[.int .u8 k0, .int .u8 k1, .int .u8 k2, .int .u8 k3, .int .u8 k4, .int .u8 k5, .int .u8 k6, .int .u8 k7, .int .u8 k8, .int .u8 k9, .int .u8 k10, .int .u8 k11, .int .u8 k12, .int .u8 k13, .int .u8 k14, .int .u8 k15, .int .u8 (n / 2)] (n / 2) := by
  obtain ⟨l, hl⟩ := keyOf65 k0 k1 k2 k3 k4 k5 k6 k7 k8 k9 k10 k11 k12 k13 k14 k15 (n / 2) wk0 wk1 wk2 wk3 wk4 wk5 wk6 wk7 wk8 wk9 wk10 wk11 wk12 wk13 wk14 wk15 (by simp [Lit.wf, IntKind.min, IntKind.max, IntKind.bits, IntKind.signed]; omega)
  refine ⟨rfl, ?_, ?_⟩
  · intro m s o o' b0 B M w hm hp hS
    obtain ⟨lo, hi, hf⟩ := hm
    have := hp.out
    subst this
    rw [← hf] at hl hS ⊢
    refine (set7 k0 k1 k2 k3 k4 k5 k6 k7 k8 k9 k10 k11 k12 k13 k14 k15 m lo hi s B M o l w hl hS.field hS.map).mono fun e w' ⟨he, hA, hg⟩ => ⟨he, hS.turned hA hg, hg⟩
  · intro m o g ok b0 B M w hm hr hS
    obtain ⟨lo, hi, hf⟩ := hm
    rw [← hf] at hl hS ⊢
    exact (windowAt9 k0 k1 k2 k3 k4 k5 k6 k7 k8 k9 k10 k11 k12 k13 k14 k15 m lo hi o g ok B M l w hl hS.field hS.map hr.val hr.ok).mono fun e w' ⟨he, hb⟩ => ⟨he, hS.below hb, hb⟩

/-- the new tallies, with the key's box below them -/
theorem new6' (b0 : Nat) (kc kp : Array Value) (w : World) (hr : w.heap[b0]? = some (.cells kc 22 (0, 0))) : Calls Try.prog 6 #[] w fun e w' => ∃ B M, e = .returned (.pointer (some ⟨B, 0, none⟩)) ∧ Sit b0 B M kc kp .none w' ∧ w.heap.size ≤ M ∧ Below w.heap.size w w' :=
  (new6 w).mono fun e w' ⟨B, M, he, hc, hA, _, hM, hb⟩ => ⟨B, M, he, ⟨(hb.block _ (lt_of_some hr)).trans hr, hc, hA _⟩, hM, hb⟩

theorem len8' (b0 B M : Nat) (kc kp : Array Value) (o : Option (WS × WS)) (w : World) (h : Sit b0 B M kc kp o w) (z : Int) (hz : z = if o.isSome then 1 else 0) : Calls Try.prog 8 #[.pointer (some ⟨B, 0, none⟩)] w fun e w' => e = .returned (.int .i64 z) ∧ w' = w := by
  have := len8 (.agg kp) (o.map pairV) B M w h.field h.map
  rw [Option.isSome_map] at this
  rw [hz]; exact this

theorem flip_num {p n : Int} (h : Num p n) : Num p (flip n) := by
  obtain ⟨a, b, c⟩ := h
  unfold flip
  split <;> exact ⟨by omega, by omega, by omega⟩
theorem flip_mod (n : Int) (hn : 0 ≤ n) : flip n % 2 = 1 - n % 2 := by
  unfold flip; split <;> omega

end Go.Proofs.Qxb6613476a
