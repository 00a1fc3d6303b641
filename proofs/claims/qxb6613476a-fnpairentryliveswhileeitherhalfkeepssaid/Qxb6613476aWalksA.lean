import Derived.Test.Qxb6613476aRows
import Derived.WalkKit
import Derived.ProofKit
import Derived.WalkLawsBesides
import Derived.RegionTactic
import Derived.ChangeAlike
import Derived.Test.Qxb6613476aMap
namespace Go.Proofs.Qxb6613476a
open Go.RowKit
set_option linter.unusedVariables false

theorem count10 (b : Bool) (w : World) : Calls Try.prog 10 #[.bool b] w fun e w' => e = .returned (.int .i64 (if b then 1 else 0)) ∧ w' = w := by
  cases b
  all_goals
    go_enter Try.func10, Try.ntmps10
    go_wp2
    go_ret
    exact ⟨rfl, rfl⟩

theorem keeps13 (a b : Int) (t : Bool) (c d : Int) (s p : Bool) (w : World) :
    Calls Try.prog 13 #[.agg #[.int .i64 a, .int .i64 b, .bool t, .int .i64 c, .int .i64 d, .bool s, .bool p]] w fun e w' => e = .returned (.bool (t || p)) ∧ Below w.heap.size w w' := by
  cases t
  all_goals
    go_enter Try.func13, Try.ntmps13
    go_wp2
    go_ret
    exact ⟨rfl, (Below.refl _ _).alloc (Nat.le_refl _) _⟩

set_option maxHeartbeats 1000000 in
theorem pair15 (k0 k1 k2 k3 k4 k5 k6 k7 k8 k9 k10 k11 k12 k13 k14 k15 : Int) (n : Int) (hn : 0 ≤ n) (hn' : n ≤ 255) (w : World) :
    Calls Try.prog 15 #[.agg #[.int .u8 k0, .int .u8 k1, .int .u8 k2, .int .u8 k3, .int .u8 k4, .int .u8 k5, .int .u8 k6, .int .u8 k7, .int .u8 k8, .int .u8 k9, .int .u8 k10, .int .u8 k11, .int .u8 k12, .int .u8 k13, .int .u8 k14, .int .u8 k15, .int .u8 n]] w fun e w' =>
      e = .returned (.tuple #[.agg #[.int .u8 k0, .int .u8 k1, .int .u8 k2, .int .u8 k3, .int .u8 k4, .int .u8 k5, .int .u8 k6, .int .u8 k7, .int .u8 k8, .int .u8 k9, .int .u8 k10, .int .u8 k11, .int .u8 k12, .int .u8 k13, .int .u8 k14, .int .u8 k15, .int .u8 (n / 2)], .int .i64 (n % 2)]) ∧ Below w.heap.size w w' := by
  go_enter Try.func15, Try.ntmps15
  go_wp2
  go_region
  all_goals go_wp2
  all_goals
    exact bodyPost_ret (v := .tuple #[.agg #[.int .u8 k0, .int .u8 k1, .int .u8 k2, .int .u8 k3, .int .u8 k4, .int .u8 k5, .int .u8 k6, .int .u8 k7, .int .u8 k8, .int .u8 k9, .int .u8 k10, .int .u8 k11, .int .u8 k12, .int .u8 k13, .int .u8 k14, .int .u8 k15, .int .u8 (n / 2)], .int .i64 (n % 2)]) (by simp [results, Try.results15, go_sem]) rfl ⟨rfl, (((Below.refl _ _).alloc (Nat.le_refl _) _).alloc (by simp) _).drew⟩

theorem keeps13' (a b : Int) (t : Bool) (c d : Int) (s p : Bool) (w : World) (kb : Bool) (h : (t || p) = kb) :
    Calls Try.prog 13 #[.agg #[.int .i64 a, .int .i64 b, .bool t, .int .i64 c, .int .i64 d, .bool s, .bool p]] w fun e w' => e = .returned (.bool kb) ∧ Below w.heap.size w w' :=
  h ▸ keeps13 a b t c d s p w

end Go.Proofs.Qxb6613476a
