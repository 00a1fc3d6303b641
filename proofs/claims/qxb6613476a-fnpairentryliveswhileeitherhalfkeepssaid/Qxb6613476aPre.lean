import Derived.Test.Qxb6613476aMain3
namespace Go.Proofs.Qxb6613476a
open Go.RowKit
set_option linter.unusedVariables false

/-! ### what is known of the memory, gathered since the call began -/
structure Pre (w0 : World) (b0 : Nat) (kc : Array Value) (w : World) : Prop where
  row : w.heap[b0]? = some (.cells kc 22 (0, 0))
  bel : Below w0.heap.size w0 w
structure Acc (w0 : World) (b0 B M : Nat) (kc kp : Array Value) (o : Option (WS × WS)) (w : World) : Prop where
  sit : Sit b0 B M kc kp o w
  bel : Below w0.heap.size w0 w
  big : w0.heap.size ≤ M
structure Len (o : Option (WS × WS)) (z : Int) : Prop where
  out : z = if o.isSome then 1 else 0

theorem pre_start (w : World) (kc : Array Value) : Pre w w.heap.size kc (w.alloc (.cells kc 22)) := ⟨heap_alloc_last _ _, (Below.refl _ _).alloc (Nat.le_refl _) _⟩
theorem pre_keeps {w0 : World} {b0 : Nat} {kc : Array Value} {w : World} (h : Pre w0 b0 kc w) (st pa : Int) (ta : Bool) (ps pu : Int) (sp pd : Bool) :
    Calls Try.prog 5 #[.int .i64 st, .int .i64 pa, .bool ta, .int .i64 ps, .int .i64 pu, .bool sp, .bool pd] w fun e w' => e = .returned (.bool (ta || pd)) ∧ Pre w0 b0 kc w' :=
  (export5 st pa ta ps pu sp pd w).mono fun e w' ⟨he, hb⟩ => ⟨he, (hb.block _ (lt_of_some h.row)).trans h.row, h.bel.trans (hb.mono h.bel.size)⟩
theorem acc_new {w0 : World} {b0 : Nat} {kc kp : Array Value} {w : World} (h : Pre w0 b0 kc w) : Calls Try.prog 6 #[] w fun e w' => ∃ B M, e = .returned (.pointer (some ⟨B, 0, none⟩)) ∧ Acc w0 b0 B M kc kp .none w' :=
  (new6' b0 kc kp w h.row).mono fun e w' ⟨B, M, he, hS, hM, hb⟩ => ⟨B, M, he, hS, h.bel.trans (hb.mono h.bel.size), Nat.le_trans h.bel.size hM⟩
theorem acc_set {w0 : World} {b0 B M : Nat} {kc kp : Array Value} {p : Int} {o o' : Option (WS × WS)} {w : World} {n : Int} {st pa : Int} {ta : Bool} {ps pu : Int} {sp pd : Bool} (hk : KeyOK kc kp p) (h : Acc w0 b0 B M kc kp o w) (hN : Num p n) (hP : Puts n ⟨st, pa, ta, ps, pu, sp, pd⟩ o o') :
    Calls Try.prog 7 #[.pointer (some ⟨B, 0, none⟩), .agg kc, .int .u8 n, .int .i64 st, .int .i64 pa, .bool ta, .int .i64 ps, .int .i64 pu, .bool sp, .bool pd] w fun e w' => e = .returned (.tuple #[]) ∧ Acc w0 b0 B M kc kp o' w' :=
  (hk.set n _ o o' b0 B M w hN hP h.sit).mono fun e w' ⟨he, hS, hg⟩ => ⟨he, hS, h.bel.grown hg h.bel.size (fun k hk => by have := h.big; cases hk; omega), h.big⟩
theorem acc_win {w0 : World} {b0 B M : Nat} {kc kp : Array Value} {p : Int} {o : Option (WS × WS)} {w : World} {n : Int} {g : WS} {ok : Bool} (hk : KeyOK kc kp p) (h : Acc w0 b0 B M kc kp o w) (hN : Num p n) (hR : Reads n o g ok) :
    Calls Try.prog 9 #[.pointer (some ⟨B, 0, none⟩), .agg kc, .int .u8 n] w fun e w' => e = .returned (.tuple #[.bool ok, .int .i64 g.st, .int .i64 g.pa, .bool g.ta, .int .i64 g.ps, .int .i64 g.pu, .bool g.sp, .bool g.pd]) ∧ Acc w0 b0 B M kc kp o w' :=
  (hk.win n o g ok b0 B M w hN hR h.sit).mono fun e w' ⟨he, hS, hb⟩ => ⟨he, hS, h.bel.trans (hb.mono h.bel.size), h.big⟩
theorem acc_len {w0 : World} {b0 B M : Nat} {kc kp : Array Value} {o : Option (WS × WS)} {w : World} {z : Int} (h : Acc w0 b0 B M kc kp o w) (hL : Len o z) :
    Calls Try.prog 8 #[.pointer (some ⟨B, 0, none⟩)] w fun e w' => e = .returned (.int .i64 z) ∧ w' = w :=
  len8' b0 B M kc kp o w h.sit z hL.out

/-! ### the script, plain -/
section
variable {n : Int} {s t : WS} {o1 o2 o3 o4 : Option (WS × WS)}
theorem script {bs bt : Bool} (hn : 0 ≤ n) (hs : s.keeps = bs) (ht : t.keeps = bt) (h1 : Puts n s .none o1) (h2 : Puts (flip n) t o1 o2) (h3 : Puts n ⟨0, 0, false, 0, 0, false, false⟩ o2 o3) (h4 : Puts (flip n) ⟨0, 0, false, 0, 0, false, false⟩ o3 o4) :
    Reads n o2 (if bs then s else ⟨0, 0, false, 0, 0, false, false⟩) (bs || bt) ∧ Reads (flip n) o2 (if bs || bt then t else ⟨0, 0, false, 0, 0, false, false⟩) (bs || bt) ∧ Len o2 (if bs || bt then 1 else 0) ∧
    Reads (flip n) o3 (if bt then t else ⟨0, 0, false, 0, 0, false, false⟩) bt ∧ Len o3 (if bt then 1 else 0) ∧ Reads n o4 ⟨0, 0, false, 0, 0, false, false⟩ false ∧ Len o4 0 := by
  have e1 := h1.out
  have e2 := h2.out
  have e3 := h3.out
  have e4 := h4.out
  have hf := flip_mod n hn
  have hz : (⟨0, 0, false, 0, 0, false, false⟩ : WS).keeps = false := rfl
  have hz' : WS.zero.keeps = false := rfl
  have hzz : WS.zero = ⟨0, 0, false, 0, 0, false, false⟩ := rfl
  cases bs <;> cases bt <;> rcases mod_two n with h | h
  all_goals
    simp [h, put, hs, hz'] at e1
    subst e1
    simp [h, hf, put, hs, ht, hz'] at e2
    subst e2
    simp [h, put, ht, hz, hz'] at e3
    subst e3
    simp [h, hf, put, hz, hz'] at e4
    subst e4
    refine ⟨⟨?_, ?_⟩, ⟨?_, ?_⟩, ⟨?_⟩, ⟨?_, ?_⟩, ⟨?_⟩, ⟨?_, ?_⟩, ⟨?_⟩⟩ <;> simp [h, hf, half, hzz]
end

end Go.Proofs.Qxb6613476a
