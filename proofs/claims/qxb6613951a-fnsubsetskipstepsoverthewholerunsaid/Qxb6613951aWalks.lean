import Derived.Test.Qxb6613951aRows
import Derived.WalkKit
import Derived.ProofKit
import Derived.OpenShut
import Derived.ShutString
import Derived.WalkLawsBesides
import Derived.Deep.QuietTactic
import Derived.BigQuiet
namespace Go.Proofs.Qxb6613951a
open Go.RowKit
set_option linter.unusedVariables false

theorem bytes4 (s : ByteArray) (p l c : Int) (w : World) (hs : s.size ≤ 1048576) :
    Calls Try.prog 4 #[.string s, .int .i64 p, .int .i64 l, .int .u8 c] w fun e w' => e = .returned (.bool true) ∧ w' = w := by
  go_enter Try.func4, Try.ntmps4
  go_wp2
  go_ret
  exact ⟨rfl, rfl⟩
theorem bytes4_not (s : ByteArray) (p l c : Int) (w : World) (hs : ¬ s.size ≤ 1048576) (hm : s.size ≤ maxLen) :
    Calls Try.prog 4 #[.string s, .int .i64 p, .int .i64 l, .int .u8 c] w fun e w' => e = .returned (.bool false) ∧ w' = w := by
  unfold maxLen at hm
  go_enter Try.func4, Try.ntmps4
  go_wp2
  go_ret
  exact ⟨rfl, rfl⟩

/-- what the reader's block holds -/
structure Rd (B : Nat) (s : ByteArray) (p l : Int) (w : World) : Prop where
  text : w.cell? ⟨B, 0, none⟩ = some (.string s)
  pos : w.cell? ⟨B, 1, none⟩ = some (.int .i64 p)
  fin : w.cell? ⟨B, 4, none⟩ = some (.int .i64 l)
  free : w.frozen? ⟨B, 1, none⟩ = false

def byt (s : ByteArray) (j : Nat) : Int := if h : j < s.size then (s[j].toNat : Int) else 0
theorem byt_eq {s : ByteArray} {j : Nat} (h : j < s.size) : (s[j].toNat : Int) = byt s j := by unfold byt; rw [dif_pos h]

theorem Rd.drewN {B : Nat} {s : ByteArray} {p l : Int} {w : World} (h : Rd B s p l w) (n : Nat) : Rd B s p l (w.drewN n) := ⟨h.text, h.pos, h.fin, h.free⟩
theorem Below.drewN' {b : Nat} {a w : World} (h : Below b a w) (n : Nat) : Below b a (w.drewN n) := ⟨h.os, h.tape, h.output, h.size, h.block⟩

/-- the byte at the reader's place; 0 at the end of its line -/
def pk (s : ByteArray) (p l : Int) : Int := if p = l then 0 else byt s p.toNat

theorem peek_end (B b : Nat) (s : ByteArray) (p : Int) (w : World) (h : Rd B s p p w) :
    Calls Try.prog 9 #[.pointer (some ⟨B, 0, none⟩)] w fun e w' => e = .returned (.int .u8 0) ∧ Rd B s p p w' ∧ Below b w w' := by
  have HR : Hid (Rd B s p p w) := h
  obtain ⟨h1, h2, h3, h4⟩ := h
  go_enter Try.func9, Try.ntmps9
  go_wp2
  go_quiet (fail)
  go_wp2
  go_ret
  exact ⟨rfl, HR.out.drewN _, Below.drewN' (Below.refl _ _) _⟩

theorem peek_at (B b : Nat) (s : ByteArray) (p l : Int) (w : World) (h : Rd B s p l w) (h0 : 0 ≤ p) (hl : p < l) (hs : l ≤ s.size) (hm : s.size ≤ 1048576) :
    Calls Try.prog 9 #[.pointer (some ⟨B, 0, none⟩)] w fun e w' => e = .returned (.int .u8 (byt s p.toNat)) ∧ Rd B s p l w' ∧ Below b w w' := by
  have HR : Hid (Rd B s p l w) := h
  obtain ⟨h1, h2, h3, h4⟩ := h
  have hp : (p == l) = false := by simp; omega
  have hlt : p < s.size := by omega
  go_enter Try.func9, Try.ntmps9
  go_wp2
  go_quiet (fail)
  go_wp2
  go_quiet (fail)
  go_wp2
  go_ret
  refine ⟨?_, (HR.out.drewN _).drewN _, Below.drewN' (Below.drewN' (Below.refl _ _) _) _⟩
  show Ending.returned (.int .u8 (s[p.toNat].toNat : Int)) = _
  rw [byt_eq (by omega)]

theorem peek9 (B b : Nat) (s : ByteArray) (p l : Int) (w : World) (h : Rd B s p l w) (h0 : 0 ≤ p) (hl : p ≤ l) (hs : l ≤ s.size) (hm : s.size ≤ 1048576) :
    Calls Try.prog 9 #[.pointer (some ⟨B, 0, none⟩)] w fun e w' => e = .returned (.int .u8 (pk s p l)) ∧ Rd B s p l w' ∧ Below b w w' := by
  unfold pk
  by_cases c : p = l
  · subst c; rw [if_pos rfl]; exact peek_end B b s p w h
  · rw [if_neg c]; exact peek_at B b s p l w h h0 (by omega) hs hm

theorem Rd.step {B : Nat} {s : ByteArray} {p l : Int} {w : World} (h : Rd B s p l w) (q : Int) : Rd B s q l (w.setCell ⟨B, 1, none⟩ (.int .i64 q)) := by
  obtain ⟨h1, h2, h3, h4⟩ := h
  refine ⟨?_, ?_, ?_, ?_⟩
  · rw [World.cell?_setCell_other _ _ _ _ (by simp)]; exact h1
  · exact World.cell?_setCell_same _ _ _ h2
  · rw [World.cell?_setCell_other _ _ _ _ (by simp)]; exact h3
  · rw [World.frozen?_setCell]; exact h4

theorem skip_yes (B b : Nat) (hb : b ≤ B) (s : ByteArray) (p l c : Int) (w : World) (h : Rd B s p l w) (h0 : 0 ≤ p) (hl : p ≤ l) (hs : l ≤ s.size) (hm : s.size ≤ 1048576) (hc : pk s p l = c) :
    Calls Try.prog 8 #[.pointer (some ⟨B, 0, none⟩), .int .u8 c] w fun e w' => e = .returned (.bool true) ∧ Rd B s (p + 1) l w' ∧ Below b w w' := by
  have HP := fun w h => peek9 B b s p l w h h0 hl hs hm
  rw [hc] at HP
  go_enter Try.func8, Try.ntmps8
  go_wp2_with (go_at_call 9; refine (HP _ h).mono ?_; rintro e w1 ⟨rfl, hr, hb1⟩; have HR : Hid (Rd B s p l w1) := hr; have HB : Hid (Below b w w1) := hb1; obtain ⟨t1, t2, t3, t4⟩ := hr; clear hb1)
  go_ret
  exact ⟨rfl, HR.out.step _, HB.out.setCell hb _⟩

theorem skip_no (B b : Nat) (s : ByteArray) (p l c : Int) (w : World) (h : Rd B s p l w) (h0 : 0 ≤ p) (hl : p ≤ l) (hs : l ≤ s.size) (hm : s.size ≤ 1048576) (hc : (pk s p l == c) = false) :
    Calls Try.prog 8 #[.pointer (some ⟨B, 0, none⟩), .int .u8 c] w fun e w' => e = .returned (.bool false) ∧ Rd B s p l w' ∧ Below b w w' := by
  have HP := fun w h => peek9 B b s p l w h h0 hl hs hm
  generalize pk s p l = v at *
  go_enter Try.func8, Try.ntmps8
  go_wp2_with (go_at_call 9; refine (HP _ h).mono ?_; rintro e w1 ⟨rfl, hr, hb1⟩)
  go_ret
  exact ⟨rfl, hr, hb1⟩

theorem export_yes (B b : Nat) (hb : b ≤ B) (s : ByteArray) (p l c : Int) (w : World) (h : Rd B s p l w) (h0 : 0 ≤ p) (hl : p ≤ l) (hs : l ≤ s.size) (hm : s.size ≤ 1048576) (hc : pk s p l = c) :
    Calls Try.prog 6 #[.pointer (some ⟨B, 0, none⟩), .int .u8 c] w fun e w' => e = .returned (.bool true) ∧ Rd B s (p + 1) l w' ∧ Below b w w' := by
  have HP := fun w h => skip_yes B b hb s p l c w h h0 hl hs hm hc
  clear hc
  go_enter Try.func6, Try.ntmps6
  go_wp2_with (go_at_call 8; refine (HP _ h).mono ?_; rintro e w1 ⟨rfl, hr, hb1⟩)
  go_ret
  exact ⟨rfl, hr, hb1⟩
theorem export_no (B b : Nat) (s : ByteArray) (p l c : Int) (w : World) (h : Rd B s p l w) (h0 : 0 ≤ p) (hl : p ≤ l) (hs : l ≤ s.size) (hm : s.size ≤ 1048576) (hc : (pk s p l == c) = false) :
    Calls Try.prog 6 #[.pointer (some ⟨B, 0, none⟩), .int .u8 c] w fun e w' => e = .returned (.bool false) ∧ Rd B s p l w' ∧ Below b w w' := by
  have HP := fun w h => skip_no B b s p l c w h h0 hl hs hm hc
  clear hc
  go_enter Try.func6, Try.ntmps6
  go_wp2_with (go_at_call 8; refine (HP _ h).mono ?_; rintro e w1 ⟨rfl, hr, hb1⟩)
  go_ret
  exact ⟨rfl, hr, hb1⟩

theorem pos7 (B : Nat) (s : ByteArray) (p l : Int) (w : World) (h : Rd B s p l w) :
    Calls Try.prog 7 #[.pointer (some ⟨B, 0, none⟩)] w fun e w' => e = .returned (.int .i64 p) ∧ w' = w := by
  obtain ⟨h1, h2, h3, h4⟩ := h
  go_enter Try.func7, Try.ntmps7
  go_wp2
  go_ret
  exact ⟨rfl, rfl⟩

theorem new5 (s : ByteArray) (p l : Int) (w : World) :
    Calls Try.prog 5 #[.string s, .int .i64 p, .int .i64 l] w fun e w' => e = .returned (.pointer (some ⟨w.heap.size, 0, none⟩)) ∧ Rd w.heap.size s p l w' ∧ Below w.heap.size w w' := by
  go_enter Try.func5, Try.ntmps5
  go_wp2
  go_ret
  exact ⟨rfl, ⟨World.cell?_alloc_at _ _ _ _ rfl, World.cell?_alloc_at _ _ _ _ rfl, World.cell?_alloc_at _ _ _ _ rfl, World.frozen?_alloc_at _ _ _ _ rfl⟩, (Below.refl _ _).alloc (Nat.le_refl _) _⟩

end Go.Proofs.Qxb6613951a
