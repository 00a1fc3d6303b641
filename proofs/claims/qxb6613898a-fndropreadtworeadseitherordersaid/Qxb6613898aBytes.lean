import Derived.Test.Qxb6613898aReadsWalk
namespace Go.Proofs.Qxb6613898a
open Go.RowKit
set_option linter.unusedVariables false

/-- the answer of a bound: either; where it is true the lengths are small -/
structure Gated (nA nS nT nR : Nat) (L : Nat → Nat) (w : World) (e : Ending) (w' : World) : Prop where
  out : ∃ q, e = .returned (.bool q) ∧ w' = w ∧ (q = true → nA ≤ 1048576 ∧ nS ≤ 1048576 ∧ nT ≤ 1048576 ∧ nR ≤ 1048576 ∧ ∀ i, i < nR → L i ≤ 1048576)

set_option maxHeartbeats 2000000 in
theorem bytes5 (aA aS aT aR : Option Addr) (nA nS nT nR cA cS cT cR : Nat) (L : Nat → Nat) (d : Int) (w : World)
    (hrow : ∀ i, i < nR → ∃ b off ra rc, aR = some ⟨b, off, none⟩ ∧ w.cell? ⟨b, off + i, none⟩ = some (.slice ra (L i) rc)) :
    Calls Try.prog 5 #[.slice aA nA cA, .slice aS nS cS, .slice aT nT cT, .slice aR nR cR, .int .u64 d] w fun e w' => Gated nA nS nT nR L w e w' := by
  have HR : Hid (∀ i, i < nR → ∃ b off ra rc, aR = some ⟨b, off, none⟩ ∧ w.cell? ⟨b, off + i, none⟩ = some (.slice ra (L i) rc)) := hrow
  clear hrow
  by_cases h0 : nA ≤ 1048576
  case neg =>
    go_enter Try.func5, Try.ntmps5
    go_wp2
    go_ret
    exact ⟨false, rfl, rfl, fun e => by cases e⟩
  by_cases h1 : nS ≤ 1048576
  case neg =>
    go_enter Try.func5, Try.ntmps5
    go_wp2
    go_ret
    exact ⟨false, rfl, rfl, fun e => by cases e⟩
  by_cases h2 : nA + nS ≤ 1048576
  case neg =>
    go_enter Try.func5, Try.ntmps5
    go_wp2
    go_ret
    exact ⟨false, rfl, rfl, fun e => by cases e⟩
  by_cases h3 : nT ≤ 1048576
  case neg =>
    go_enter Try.func5, Try.ntmps5
    go_wp2
    go_ret
    exact ⟨false, rfl, rfl, fun e => by cases e⟩
  by_cases h4 : nA + nS + nT ≤ 1048576
  case neg =>
    go_enter Try.func5, Try.ntmps5
    go_wp2
    go_ret
    exact ⟨false, rfl, rfl, fun e => by cases e⟩
  by_cases h5 : nR ≤ 1048576
  case neg =>
    go_enter Try.func5, Try.ntmps5
    go_wp2
    go_ret
    exact ⟨false, rfl, rfl, fun e => by cases e⟩
  by_cases h6 : nA + nS + nT + nR ≤ 1048576
  case neg =>
    go_enter Try.func5, Try.ntmps5
    go_wp2
    go_ret
    exact ⟨false, rfl, rfl, fun e => by cases e⟩
  go_enter Try.func5, Try.ntmps5
  go_wp2
  go_loop [11, 12] (fun t i => ∃ k n : Nat, k ≤ nR ∧ i = .int .i64 k ∧ t = .int .i64 n ∧ n ≤ 1048576 ∧ ∀ j, j < k → L j ≤ 1048576) (fun _ i => nR - (intOf i).toNat)
  case atStart => exact ⟨0, (nA + nS + nT + nR : Nat), by omega, rfl, by go_num, by omega, fun j h => absurd h (Nat.not_lt_zero _)⟩
  case round =>
    obtain ⟨k, n, hk, rfl, rfl, hn, hl⟩ := hrel
    have HL : Hid (∀ j, j < k → L j ≤ 1048576) := hl
    clear hl
    by_cases hlt : k < nR
    · obtain ⟨b, off, ra, rc, rfl, hc⟩ := HR.out k hlt
      have HK : Hid (L k = L k) := rfl
      generalize hm : L k = m at *
      have HM : Hid (L k = m) := hm
      clear hm
      by_cases g1 : m ≤ 1048576
      case neg =>
        go_wp2
        go_ret
        exact ⟨false, rfl, rfl, fun e => by cases e⟩
      by_cases g2 : n + m ≤ 1048576
      case neg =>
        go_wp2
        go_ret
        exact ⟨false, rfl, rfl, fun e => by cases e⟩
      go_wp2
      go_round
      case rel =>
        refine ⟨k + 1, n + m, by omega, by go_num, by go_num, by omega, fun j hj => ?_⟩
        by_cases e : j = k
        · subst e; rw [HM.out]; omega
        · exact HL.out j (by omega)
      case measure => simp [intOf]; omega
    · go_wp2
      go_ret
      exact ⟨true, rfl, rfl, fun _ => ⟨by omega, by omega, by omega, by omega, fun i hi => HL.out i (by omega)⟩⟩

set_option maxHeartbeats 2000000 in
theorem within6 (aA aS aT aR : Option Addr) (nA nS nT nR cA cS cT cR : Nat) (L : Nat → Nat) (w : World)
    (hrow : ∀ i, i < nR → ∃ b off ra rc, aR = some ⟨b, off, none⟩ ∧ w.cell? ⟨b, off + i, none⟩ = some (.slice ra (L i) rc)) :
    Calls Try.prog 6 #[.slice aA nA cA, .slice aS nS cS, .slice aT nT cT, .slice aR nR cR] w fun e w' => Gated nA nS nT nR L w e w' := by
  have HR : Hid (∀ i, i < nR → ∃ b off ra rc, aR = some ⟨b, off, none⟩ ∧ w.cell? ⟨b, off + i, none⟩ = some (.slice ra (L i) rc)) := hrow
  clear hrow
  by_cases h0 : nA ≤ 131072
  case neg =>
    go_enter Try.func6, Try.ntmps6
    go_wp2
    go_ret
    exact ⟨false, rfl, rfl, fun e => by cases e⟩
  by_cases h1 : nS ≤ 131072
  case neg =>
    go_enter Try.func6, Try.ntmps6
    go_wp2
    go_ret
    exact ⟨false, rfl, rfl, fun e => by cases e⟩
  by_cases h2 : nT ≤ 131072
  case neg =>
    go_enter Try.func6, Try.ntmps6
    go_wp2
    go_ret
    exact ⟨false, rfl, rfl, fun e => by cases e⟩
  by_cases h3 : nR ≤ 131072
  case neg =>
    go_enter Try.func6, Try.ntmps6
    go_wp2
    go_ret
    exact ⟨false, rfl, rfl, fun e => by cases e⟩
  by_cases h4 : 8 * nA + 8 * nS + 8 * nT + 8 * nR ≤ 1048576
  case neg =>
    go_enter Try.func6, Try.ntmps6
    go_wp2
    go_ret
    exact ⟨false, rfl, rfl, fun e => by cases e⟩
  go_enter Try.func6, Try.ntmps6
  go_wp2
  go_loop [9, 10] (fun t i => ∃ k n : Nat, k ≤ nR ∧ i = .int .i64 k ∧ t = .int .i64 n ∧ n ≤ 1048576 ∧ ∀ j, j < k → L j ≤ 1048576) (fun _ i => nR - (intOf i).toNat)
  case atStart => exact ⟨0, (8 * nA + 8 * nS + 8 * nT + 8 * nR : Nat), by omega, rfl, by go_num, by omega, fun j h => absurd h (Nat.not_lt_zero _)⟩
  case round =>
    obtain ⟨k, n, hk, rfl, rfl, hn, hl⟩ := hrel
    have HL : Hid (∀ j, j < k → L j ≤ 1048576) := hl
    clear hl
    by_cases hlt : k < nR
    · obtain ⟨b, off, ra, rc, rfl, hc⟩ := HR.out k hlt
      have HK : Hid (L k = L k) := rfl
      generalize hm : L k = m at *
      have HM : Hid (L k = m) := hm
      clear hm
      by_cases g1 : m ≤ 131072
      case neg =>
        go_wp2
        go_ret
        exact ⟨false, rfl, rfl, fun e => by cases e⟩
      by_cases g2 : n + 8 * m ≤ 1048576
      case neg =>
        go_wp2
        go_ret
        exact ⟨false, rfl, rfl, fun e => by cases e⟩
      go_wp2
      go_round
      case rel =>
        refine ⟨k + 1, n + 8 * m, by omega, by go_num, by go_num, by omega, fun j hj => ?_⟩
        by_cases e : j = k
        · subst e; rw [HM.out]; omega
        · exact HL.out j (by omega)
      case measure => simp [intOf]; omega
    · go_wp2
      go_ret
      exact ⟨true, rfl, rfl, fun _ => ⟨by omega, by omega, by omega, by omega, fun i hi => HL.out i (by omega)⟩⟩

set_option maxHeartbeats 2000000 in
theorem bytes14 (aA aS aT aR : Option Addr) (nA nS nT nR cA cS cT cR : Nat) (L : Nat → Nat) (d d' : Int) (w : World)
    (hrow : ∀ i, i < nR → ∃ b off ra rc, aR = some ⟨b, off, none⟩ ∧ w.cell? ⟨b, off + i, none⟩ = some (.slice ra (L i) rc)) :
    Calls Try.prog 14 #[.slice aA nA cA, .slice aS nS cS, .slice aT nT cT, .slice aR nR cR, .int .u64 d, .int .u64 d'] w fun e w' => Gated nA nS nT nR L w e w' := by
  have HR : Hid (∀ i, i < nR → ∃ b off ra rc, aR = some ⟨b, off, none⟩ ∧ w.cell? ⟨b, off + i, none⟩ = some (.slice ra (L i) rc)) := hrow
  clear hrow
  by_cases h0 : nA ≤ 1048576
  case neg =>
    go_enter Try.func14, Try.ntmps14
    go_wp2
    go_ret
    exact ⟨false, rfl, rfl, fun e => by cases e⟩
  by_cases h1 : nS ≤ 1048576
  case neg =>
    go_enter Try.func14, Try.ntmps14
    go_wp2
    go_ret
    exact ⟨false, rfl, rfl, fun e => by cases e⟩
  by_cases h2 : nA + nS ≤ 1048576
  case neg =>
    go_enter Try.func14, Try.ntmps14
    go_wp2
    go_ret
    exact ⟨false, rfl, rfl, fun e => by cases e⟩
  by_cases h3 : nT ≤ 1048576
  case neg =>
    go_enter Try.func14, Try.ntmps14
    go_wp2
    go_ret
    exact ⟨false, rfl, rfl, fun e => by cases e⟩
  by_cases h4 : nA + nS + nT ≤ 1048576
  case neg =>
    go_enter Try.func14, Try.ntmps14
    go_wp2
    go_ret
    exact ⟨false, rfl, rfl, fun e => by cases e⟩
  by_cases h5 : nR ≤ 1048576
  case neg =>
    go_enter Try.func14, Try.ntmps14
    go_wp2
    go_ret
    exact ⟨false, rfl, rfl, fun e => by cases e⟩
  by_cases h6 : nA + nS + nT + nR ≤ 1048576
  case neg =>
    go_enter Try.func14, Try.ntmps14
    go_wp2
    go_ret
    exact ⟨false, rfl, rfl, fun e => by cases e⟩
  go_enter Try.func14, Try.ntmps14
  go_wp2
  go_loop [13, 14] (fun t i => ∃ k n : Nat, k ≤ nR ∧ i = .int .i64 k ∧ t = .int .i64 n ∧ n ≤ 1048576 ∧ ∀ j, j < k → L j ≤ 1048576) (fun _ i => nR - (intOf i).toNat)
  case atStart => exact ⟨0, (nA + nS + nT + nR : Nat), by omega, rfl, by go_num, by omega, fun j h => absurd h (Nat.not_lt_zero _)⟩
  case round =>
    obtain ⟨k, n, hk, rfl, rfl, hn, hl⟩ := hrel
    have HL : Hid (∀ j, j < k → L j ≤ 1048576) := hl
    clear hl
    by_cases hlt : k < nR
    · obtain ⟨b, off, ra, rc, rfl, hc⟩ := HR.out k hlt
      have HK : Hid (L k = L k) := rfl
      generalize hm : L k = m at *
      have HM : Hid (L k = m) := hm
      clear hm
      by_cases g1 : m ≤ 1048576
      case neg =>
        go_wp2
        go_ret
        exact ⟨false, rfl, rfl, fun e => by cases e⟩
      by_cases g2 : n + m ≤ 1048576
      case neg =>
        go_wp2
        go_ret
        exact ⟨false, rfl, rfl, fun e => by cases e⟩
      go_wp2
      go_round
      case rel =>
        refine ⟨k + 1, n + m, by omega, by go_num, by go_num, by omega, fun j hj => ?_⟩
        by_cases e : j = k
        · subst e; rw [HM.out]; omega
        · exact HL.out j (by omega)
      case measure => simp [intOf]; omega
    · go_wp2
      go_ret
      exact ⟨true, rfl, rfl, fun _ => ⟨by omega, by omega, by omega, by omega, fun i hi => HL.out i (by omega)⟩⟩

end Go.Proofs.Qxb6613898a
