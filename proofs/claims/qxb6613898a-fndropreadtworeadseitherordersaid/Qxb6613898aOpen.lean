import Derived.Test.Qxb6613898aMain3
import Derived.Deep.Matrix
namespace Go.Proofs.Qxb6613898a
open Go.RowKit
open Go.ChangeShapes Go.WideShapes Go.ChangeAt
set_option linter.unusedVariables false

theorem addr_add {b off : Nat} {i : Nat} : (⟨b, off, none⟩ : Addr).add i = ⟨b, off + i, none⟩ := by unfold Addr.add; split <;> simp_all

theorem raw_of {w : World} {a : Option Addr} {len cap : Nat} {zs : List Int} (hl : len ≤ cap) (hz : zs.length = cap) (hn : a = none → cap = 0) (hc : ∀ x, a = some x → ∀ i, i < cap → w.cell? (x.add i) = some (.int .u64 (zs.getD i 0))) : Raw w (.slice a len cap) (zs.take len) := by
  have hlen : (zs.take len).length = len := by rw [List.length_take, hz, Nat.min_eq_left hl]
  refine ⟨a, cap, by rw [hlen], fun i hi => ?_⟩
  rw [hlen] at hi
  cases a with
  | none => have := hn rfl; omega
  | some x =>
    obtain ⟨b, off, spot⟩ := x
    have h0 := hc _ rfl i (by omega)
    have hspot : spot = none := by simpa [Addr.add] using World.cell?_spot (hc _ rfl 0 (by omega))
    subst hspot
    refine ⟨b, off, rfl, ?_⟩
    rw [addr_add] at h0
    rw [h0, List.getElem_take, List.getD_eq_getElem?_getD, List.getElem?_eq_getElem (by omega)]
    rfl

section
variable {H : Type} {enc : TypeId × Value → H} {w : World} {base : Nat} {held : Bool}

theorem open_words {fuel : Nat} {a : Option Addr} {len cap : Nat} {x : DataW H × List MemPlace} (h : DataW.trod enc Try.prog w base (fun _ => true) held fuel 22 (Value.slice a len cap).cells.toList = some x) : ∃ us : List Int, us.length = len ∧ Raw w (.slice a us.length cap) us := by
  rcases Go.ChangeShapes.open_ints Try.underlying22 Try.underlying24 (by kernel_rfl) h with ⟨hcs, _⟩ | ⟨y, l, c, zs, hcs, _, hl, hm, hz, _, hcell, hwz⟩
  · simp [Value.cells] at hcs
    obtain ⟨rfl, rfl, rfl⟩ := hcs
    exact ⟨[], rfl, none, 0, rfl, fun i h => absurd h (Nat.not_lt_zero _)⟩
  · simp [Value.cells] at hcs
    obtain ⟨rfl, rfl, rfl⟩ := hcs
    have hz' : zs.length = cap := by simpa using hz
    have hlen : (zs.take len).length = len := by rw [List.length_take, hz', Nat.min_eq_left hl]
    refine ⟨zs.take len, hlen, ?_⟩
    rw [hlen]
    exact raw_of hl hz' (fun e => by cases e) (fun x e i hi => by cases e; exact hcell i (by omega))

theorem open_word_rows {fuel : Nat} {a : Option Addr} {len cap : Nat} {x : DataW H × List MemPlace} (h : DataW.trod enc Try.prog w base (fun _ => true) held fuel 23 (Value.slice a len cap).cells.toList = some x) :
    ∃ R : List (List Int), R.length = len ∧ ∀ i (h : i < R.length), ∃ b off y, a = some ⟨b, off, none⟩ ∧ w.cell? ⟨b, off + i, none⟩ = some y ∧ Raw w y R[i] := by
  rcases Go.Deep.open_int_rows Try.underlying23 Try.underlying22 Try.underlying24 (by kernel_rfl) (by kernel_rfl) h with ⟨hcs, _⟩ | ⟨y, l, c, F, L, C, Z, hcs, _, hl, hm, _, hrow⟩
  · simp [Value.cells] at hcs
    obtain ⟨rfl, rfl, rfl⟩ := hcs
    exact ⟨[], rfl, fun i h => absurd h (Nat.not_lt_zero _)⟩
  · simp [Value.cells] at hcs
    obtain ⟨rfl, rfl, rfl⟩ := hcs
    refine ⟨(List.range len).map fun r => (Z r).take (L r), by simp, fun i hi => ?_⟩
    have hi' : i < len := by simpa using hi
    obtain ⟨q1, q2, q3, q4, q5, q6, q7⟩ := hrow i (by omega)
    obtain ⟨b, off, spot⟩ := y
    have hspot : spot = none := by simpa [Addr.add] using World.cell?_spot (hrow 0 (by omega)).1
    subst hspot
    rw [addr_add] at q1
    refine ⟨b, off, _, rfl, q1, ?_⟩
    simp only [List.getElem_map, List.getElem_range]
    exact raw_of q2 q4 q6 (fun x e i hi => (q7 x e).2 i hi)
end
end Go.Proofs.Qxb6613898a
