import Derived.Test.Qxb6613898aClones
import Derived.Deep.AppendLies
import Derived.Deep.RegionLaw
namespace Go.Proofs.Qxb6613898a
open Go.RowKit
set_option linter.unusedVariables false

theorem built87 : (Try.prog.built 87 [(0, .string ⟨#[122, 122]⟩)]).map (fun c => (c[8]?, c[76]?, c[77]?, c[81]?)) = some (some (.map none), some (.slice none 0 0), some (.slice none 0 0), some (.slice none 0 0)) := by kernel_rfl

theorem wpList_build_x {P : Program} {ops : Array Oper} {rest : List Oper} {dst : Option Tmp} {t : TypeId} {x : Operand} {τ : TypeId} {pos : String} {aft : Array Edge} {a : Act} {w : World} {Q : Exit → Act → World → Prop}
    (s : Value) (cs : Array Value) (hx : a.eval x = s) (hr : (Instr.build t #[(0, s)]).run P w = .ok (.agg cs) w) (h : wpList P ops Q rest (a.put dst (.agg cs)) w) :
    wpList P ops Q ({ dst := dst, op := .build t #[(0, x)], type := τ, pos := pos, after := aft, guard := none } :: rest) a w := by
  refine wpList_plain rfl fun K hK => ?_
  unfold Oper.wp execOp
  simp only [Sem.run_bind, Sem.run_pure, Result.andThen_ok, List.map_toArray, List.map_cons, List.map_nil, hx, hr]
  exact hK _ _ h

set_option maxRecDepth 20000 in
set_option maxHeartbeats 1000000 in
theorem new15 (w : World) :
    Calls Try.prog 15 #[.string ⟨#[122, 122]⟩] w fun e w' => e = .returned (.pointer (some ⟨w.heap.size, 0, none⟩)) ∧ (∃ nc, w'.heap[w.heap.size]? = some (.cells nc 87 (0, 0)) ∧ nc[76]? = some (.slice none 0 0) ∧ nc[77]? = some (.slice none 0 0) ∧ nc[81]? = some (.slice none 0 0)) ∧ Below w.heap.size w w' := by
  have hb := built87
  obtain ⟨cs, hcs, c0, c1, c2, c3⟩ : ∃ cs, Try.prog.built 87 [(0, .string ⟨#[122, 122]⟩)] = some cs ∧ cs[8]? = some (.map none) ∧ cs[76]? = some (.slice none 0 0) ∧ cs[77]? = some (.slice none 0 0) ∧ cs[81]? = some (.slice none 0 0) := by
    cases hq : Try.prog.built 87 [(0, .string ⟨#[122, 122]⟩)] with
    | none => rw [hq] at hb; cases hb
    | some cs =>
      rw [hq] at hb
      simp at hb
      exact ⟨cs, rfl, hb⟩
  have HB : Hid (∀ w, (Instr.build 87 #[(0, .string ⟨#[122, 122]⟩)]).run Try.prog w = .ok (.agg cs) w) := fun w => run_build w _ _ _ hcs
  have hmm : ∀ w, (Instr.makeMap 46 none).run Try.prog w = .ok (.map (some w.heap.size)) (w.alloc (.map #[] 0)) := fun w => rfl
  have hrow : ((w.alloc (.cells cs 87)).alloc (.map #[] 0)).heap[w.heap.size]? = some (.cells cs 87 (0, 0)) := (Below.heap_alloc _ _ _ (by simp)).trans (heap_alloc_last _ _)
  have HR : Hid (((w.alloc (.cells cs 87)).alloc (.map #[] 0)).heap[w.heap.size]? = some (.cells cs 87 (0, 0))) := hrow
  have hc : ((w.alloc (.cells cs 87)).alloc (.map #[] 0)).cell? ⟨w.heap.size, 8, none⟩ = some (.map none) := (cell_row hrow).trans c0
  have hf : ((w.alloc (.cells cs 87)).alloc (.map #[] 0)).frozen? ⟨w.heap.size, 8, none⟩ = false := free_row hrow
  have HC : Hid (cs[76]? = some (.slice none 0 0) ∧ cs[77]? = some (.slice none 0 0) ∧ cs[81]? = some (.slice none 0 0)) := ⟨c1, c2, c3⟩
  clear hb hcs c0 c1 c2 c3 hrow
  go_enter Try.func15, Try.ntmps15
  go_wp2_with (refine wpList_build_x (.string ⟨#[122, 122]⟩) cs rfl (HB.out _) ?_)
  go_ret
  refine ⟨rfl, ⟨_, (Below.heap_alloc _ _ _ (by simp)).trans (heap_alloc_last _ _), ?_, ?_, ?_⟩, ((Below.refl _ _).alloc (Nat.le_refl _) _).alloc (by simp) _⟩
  · rw [Array.getElem?_setIfInBounds_ne (by omega)]; exact HC.out.1
  · rw [Array.getElem?_setIfInBounds_ne (by omega)]; exact HC.out.2.1
  · rw [Array.getElem?_setIfInBounds_ne (by omega)]; exact HC.out.2.2
end Go.Proofs.Qxb6613898a
