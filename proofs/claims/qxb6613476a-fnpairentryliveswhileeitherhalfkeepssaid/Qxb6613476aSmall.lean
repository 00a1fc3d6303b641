import Derived.Test.Qxb6613476aLaws
import Derived.Test.Qxb6613476aWalksA
namespace Go.Proofs.Qxb6613476a
open Go.RowKit
set_option linter.unusedVariables false

theorem export5 (a b : Int) (t : Bool) (c d : Int) (s p : Bool) (w : World) :
    Calls Try.prog 5 #[.int .i64 a, .int .i64 b, .bool t, .int .i64 c, .int .i64 d, .bool s, .bool p] w fun e w' => e = .returned (.bool (t || p)) ∧ Below w.heap.size w w' := by
  go_enter Try.func5, Try.ntmps5
  go_wp2_with (go_at_call 13; refine (keeps13 _ _ _ _ _ _ _ _).mono ?_; rintro e w1 ⟨rfl, hb⟩)
  go_ret
  exact ⟨rfl, hb⟩

theorem len8 (K : Value) (st : Option Value) (B M : Nat) (w : World) (hc : w.cell? ⟨B, 2, none⟩ = some (.map (some M))) (hA : At K M w st) :
    Calls Try.prog 8 #[.pointer (some ⟨B, 0, none⟩)] w fun e w' => e = .returned (.int .i64 (if st.isSome then 1 else 0)) ∧ w' = w := by
  have hl : ∀ t, (Builtin.len_ #[39] t #[.map (some M)]).run Try.prog w = .ok (.int .i64 (if st.isSome then 1 else 0)) w := fun t => len_any hA t
  generalize (if st.isSome then (1 : Int) else 0) = z at *
  clear hA
  go_enter Try.func8, Try.ntmps8
  go_wp2
  go_ret
  exact ⟨rfl, rfl⟩

theorem zero11 (w : World) : Calls Try.prog 11 #[.int .i64 0, .int .i64 0, .bool false, .int .i64 0, .int .i64 0, .bool false, .bool false] w fun e w' => e = .returned (.bool true) ∧ w' = w := by
  go_enter Try.func11, Try.ntmps11
  go_wp2
  go_ret
  exact ⟨rfl, rfl⟩

theorem same12 (a b : Int) (t : Bool) (c d : Int) (s p : Bool) (w : World) :
    Calls Try.prog 12 #[.int .i64 a, .int .i64 b, .bool t, .int .i64 c, .int .i64 d, .bool s, .bool p, .int .i64 a, .int .i64 b, .bool t, .int .i64 c, .int .i64 d, .bool s, .bool p] w fun e w' => e = .returned (.bool true) ∧ w' = w := by
  go_enter Try.func12, Try.ntmps12
  go_wp2
  go_ret
  exact ⟨rfl, rfl⟩

set_option maxHeartbeats 1000000 in
theorem new6 (w : World) : Calls Try.prog 6 #[] w fun e w' => ∃ B M, e = .returned (.pointer (some ⟨B, 0, none⟩)) ∧ w'.cell? ⟨B, 2, none⟩ = some (.map (some M)) ∧ (∀ K, At K M w' .none) ∧ w.heap.size ≤ B ∧ w.heap.size ≤ M ∧ Below w.heap.size w w' := by
  have hmm := @run_makeMap Try.prog
  go_enter Try.func6, Try.ntmps6
  go_wp2
  go_ret
  refine ⟨w.heap.size + 1 + 1 + 1 + 1 + 1 + 1 + 1 + 1 + 1, w.heap.size, rfl, (World.cell?_alloc_at _ _ _ _ (by simp)).trans rfl, fun K => ?_, by omega, Nat.le_refl _, (((((((((((Below.refl _ _).alloc (by first | (simp; done) | (simp; omega)) _).alloc (by first | (simp; done) | (simp; omega)) _).alloc (by first | (simp; done) | (simp; omega)) _).alloc (by first | (simp; done) | (simp; omega)) _).alloc (by first | (simp; done) | (simp; omega)) _).alloc (by first | (simp; done) | (simp; omega)) _).alloc (by first | (simp; done) | (simp; omega)) _).alloc (by first | (simp; done) | (simp; omega)) _).alloc (by first | (simp; done) | (simp; omega)) _).alloc (by first | (simp; done) | (simp; omega)) _)⟩
  have ra : ∀ (x : World) (o : Obj), w.heap.size < x.heap.size → At K w.heap.size (x.alloc o) .none = At K w.heap.size x .none := fun x o h => At_alloc o h
  iterate 9 rw [ra _ _ (by first | (simp; done) | (simp; omega))]
  exact ⟨0, heap_alloc_last _ _⟩

end Go.Proofs.Qxb6613476a
