import Derived.Test.Qxb6613951aWalks
namespace Go.Proofs.Qxb6613951a
open Go.RowKit
set_option linter.unusedVariables false

theorem pk_at {s : ByteArray} {p l : Int} (h : ¬ p = l) : pk s p l = byt s p.toNat := if_neg h
theorem pk_end {s : ByteArray} {l : Int} : pk s l l = 0 := if_pos rfl
theorem run_yes {s : ByteArray} {p k l : Nat} {c : Int} (h : ∀ i, i < k → byt s (p + i) = c) (hk : p + k ≤ l) : ∀ j, j < k → pk s ((p : Int) + (j : Int)) (l : Int) = c := by
  intro j hj
  rw [pk_at (by omega), show ((p : Int) + (j : Int)).toNat = p + j by omega]
  exact h j hj

set_option maxHeartbeats 4000000 in
theorem main3 (s : ByteArray) (p l : Nat) (c : Int) (hm : s.size ≤ 1048576) (hpl : p ≤ l) (hls : l ≤ s.size) (hc0 : 0 ≤ c) (hc1 : c ≤ 255) (w : World) :
    Calls Try.prog 3 #[.string s, .int .i64 p, .int .i64 l, .int .u8 c] w fun e w' => e = .returned (.bool true) ∧ Below w.heap.size w w' := by
  have hbyt : ∀ (j : Nat) (h : j < s.size), (s[j].toNat : Int) = byt s j := fun j h => byt_eq h
  go_enter Try.func3, Try.ntmps3
  go_wp2_with (go_at_call 4; refine (bytes4 _ _ _ _ _ (by omega)).mono ?_; rintro e w' ⟨rfl, hw'⟩; obtain rfl := hw'.symm)
  go_loop [9] (fun k => ∃ k' : Nat, p + k' ≤ l ∧ Hid (∀ i, i < k' → byt s (p + i) = c) ∧ k = .int .i64 k') (fun k => l - (intOf k).toNat)
  case atStart => exact ⟨0, by omega, (fun i hi => absurd hi (Nat.not_lt_zero _)), rfl⟩
  case round =>
    obtain ⟨k, hk, HA, rfl⟩ := hrel
    have HYES : Hid (∀ j, j < k → pk s ((p : Int) + (j : Int)) (l : Int) = c) := run_yes HA.out hk
    by_cases hlt : p + k < l
    · by_cases hb : byt s (p + k) = c
      · have hq : (byt s (p + k) == c) = true := by rw [hb]; simp
        have HB : Hid (byt s (p + k) = c) := hb
        clear hb
        go_wp2
        go_round
        case rel => exact ⟨k + 1, by omega, (fun i hi => by
          by_cases h : i < k
          · exact HA.out i h
          · have : i = k := by omega
            subst this; exact HB.out), by go_num⟩
        case measure => simp [intOf]; omega
      · have hq : (byt s (p + k) == c) = false := by simpa using hb
        have HLAST : Hid ((pk s ((p : Int) + (k : Int)) (l : Int) == c) = false) := (by show _ = false; rw [pk_at (by omega), show ((p : Int) + (k : Int)).toNat = p + k by omega]; exact hq)
        have hne : ((p : Int) + (k : Int) == (l : Int)) = false := by simp; omega
        clear hb
        by_cases hc : c = 0
        · have hcz : (c == 0) = true := by simp [hc]
          have HC : Hid (c = 0) := hc
          clear hc
          have HN : Hid (Rd w.heap.size s (p : Int) l w → True) := fun _ => trivial
          clear HN
          go_wp2_with (first
            | (go_at_call 5; refine (new5 _ _ _ _).mono ?_; rintro e w1 ⟨rfl, hr1, hb1⟩; have HR1 : Hid (Rd w.heap.size s (p : Int) (l : Int) w1) := hr1; have HB1 : Hid (Below w.heap.size w w1) := hb1; clear hr1 hb1))
          go_loopw [14, 15, 16] (fun st rf i wr => ∃ j : Nat, j ≤ k ∧ st = .int .i64 j ∧ rf = .bool false ∧ i = .int .i64 j ∧ Rd w.heap.size s ((p : Int) + (j : Int)) (l : Int) wr ∧ Below w.heap.size w wr) (fun st rf i wr => k + 1 - (intOf i).toNat)
          case atStart => exact ⟨0, by omega, rfl, rfl, rfl, by simpa using HR1.out, HB1.out⟩
          case round =>
            obtain ⟨j, hj, rfl, rfl, rfl, hR, hBl⟩ := hrel
            have HR : Hid (Rd w.heap.size s ((p : Int) + (j : Int)) (l : Int) wr) := hR
            have HBl : Hid (Below w.heap.size w wr) := hBl
            clear hR hBl
            by_cases hjk : j < k
            · go_wp2_with (first
                | (go_at_call 6; refine (export_yes w.heap.size w.heap.size (Nat.le_refl _) s ((p : Int) + (j : Int)) l c _ HR.out (by omega) (by omega) (by omega) hm (HYES.out j hjk)).mono ?_; rintro e w2 ⟨rfl, hr2, hb2⟩; have HR2 : Hid (Rd w.heap.size s ((p : Int) + (j : Int) + 1) (l : Int) w2) := hr2; have HB2 : Hid (Below w.heap.size wr w2) := hb2; clear hr2 hb2)
                | (go_at_call 7; refine (pos7 _ _ _ _ _ HR2.out).mono ?_; rintro e w' ⟨rfl, hw'⟩; obtain rfl := hw'.symm))
              go_roundw
              case rel => exact ⟨j + 1, by omega, by go_num, rfl, by go_num, by have := HR2.out; rwa [show (p : Int) + (j : Int) + 1 = (p : Int) + ((j + 1 : Nat) : Int) by omega] at this, HBl.out.trans HB2.out⟩
              case measure => simp [intOf]; omega
            · obtain rfl : j = k := by omega
              go_wp2_with (first
                | (go_at_call 6; refine (export_no w.heap.size w.heap.size s ((p : Int) + (j : Int)) l c _ HR.out (by omega) (by omega) (by omega) hm HLAST.out).mono ?_; rintro e w2 ⟨rfl, hr2, hb2⟩; have HR2 : Hid (Rd w.heap.size s ((p : Int) + (j : Int)) (l : Int) w2) := hr2; have HB2 : Hid (Below w.heap.size wr w2) := hb2; clear hr2 hb2)
                | (go_at_call 7; refine (pos7 _ _ _ _ _ HR2.out).mono ?_; rintro e w' ⟨rfl, hw'⟩; obtain rfl := hw'.symm))
              go_ret
              exact ⟨rfl, HBl.out.trans HB2.out⟩
        · have hcz : (c == 0) = false := by simpa using hc
          clear hc
          have HN : Hid (Rd w.heap.size s (p : Int) l w → True) := fun _ => trivial
          clear HN
          go_wp2_with (first
            | (go_at_call 5; refine (new5 _ _ _ _).mono ?_; rintro e w1 ⟨rfl, hr1, hb1⟩; have HR1 : Hid (Rd w.heap.size s (p : Int) (l : Int) w1) := hr1; have HB1 : Hid (Below w.heap.size w w1) := hb1; clear hr1 hb1))
          go_loopw [14, 15, 16] (fun st rf i wr => ∃ j : Nat, j ≤ k ∧ st = .int .i64 j ∧ rf = .bool false ∧ i = .int .i64 j ∧ Rd w.heap.size s ((p : Int) + (j : Int)) (l : Int) wr ∧ Below w.heap.size w wr) (fun st rf i wr => k + 1 - (intOf i).toNat)
          case atStart => exact ⟨0, by omega, rfl, rfl, rfl, by simpa using HR1.out, HB1.out⟩
          case round =>
            obtain ⟨j, hj, rfl, rfl, rfl, hR, hBl⟩ := hrel
            have HR : Hid (Rd w.heap.size s ((p : Int) + (j : Int)) (l : Int) wr) := hR
            have HBl : Hid (Below w.heap.size w wr) := hBl
            clear hR hBl
            by_cases hjk : j < k
            · go_wp2_with (first
                | (go_at_call 6; refine (export_yes w.heap.size w.heap.size (Nat.le_refl _) s ((p : Int) + (j : Int)) l c _ HR.out (by omega) (by omega) (by omega) hm (HYES.out j hjk)).mono ?_; rintro e w2 ⟨rfl, hr2, hb2⟩; have HR2 : Hid (Rd w.heap.size s ((p : Int) + (j : Int) + 1) (l : Int) w2) := hr2; have HB2 : Hid (Below w.heap.size wr w2) := hb2; clear hr2 hb2)
                | (go_at_call 7; refine (pos7 _ _ _ _ _ HR2.out).mono ?_; rintro e w' ⟨rfl, hw'⟩; obtain rfl := hw'.symm))
              go_roundw
              case rel => exact ⟨j + 1, by omega, by go_num, rfl, by go_num, by have := HR2.out; rwa [show (p : Int) + (j : Int) + 1 = (p : Int) + ((j + 1 : Nat) : Int) by omega] at this, HBl.out.trans HB2.out⟩
              case measure => simp [intOf]; omega
            · obtain rfl : j = k := by omega
              go_wp2_with (first
                | (go_at_call 6; refine (export_no w.heap.size w.heap.size s ((p : Int) + (j : Int)) l c _ HR.out (by omega) (by omega) (by omega) hm HLAST.out).mono ?_; rintro e w2 ⟨rfl, hr2, hb2⟩; have HR2 : Hid (Rd w.heap.size s ((p : Int) + (j : Int)) (l : Int) w2) := hr2; have HB2 : Hid (Below w.heap.size wr w2) := hb2; clear hr2 hb2)
                | (go_at_call 7; refine (pos7 _ _ _ _ _ HR2.out).mono ?_; rintro e w' ⟨rfl, hw'⟩; obtain rfl := hw'.symm))
              go_ret
              exact ⟨rfl, HBl.out.trans HB2.out⟩
    · have HE : Hid ((p : Int) + (k : Int) = (l : Int)) := (by show _ = _; omega)
      have heq : ((p : Int) + (k : Int) == (l : Int)) = true := by simp; omega
      by_cases hc : c = 0
      · have hcz : (c == 0) = true := by simp [hc]
        have HLAST : Hid (pk s ((p : Int) + (k : Int)) (l : Int) = c) := (by show _ = c; rw [HE.out, pk_end, hc])
        have HC : Hid (c = 0) := hc
        clear hc
        have HN : Hid (Rd w.heap.size s (p : Int) l w → True) := fun _ => trivial
        clear HN
        go_wp2_with (first
          | (go_at_call 5; refine (new5 _ _ _ _).mono ?_; rintro e w1 ⟨rfl, hr1, hb1⟩; have HR1 : Hid (Rd w.heap.size s (p : Int) (l : Int) w1) := hr1; have HB1 : Hid (Below w.heap.size w w1) := hb1; clear hr1 hb1))
        go_loopw [14, 15, 16] (fun st rf i wr => ∃ j : Nat, j ≤ k ∧ st = .int .i64 j ∧ rf = .bool false ∧ i = .int .i64 j ∧ Rd w.heap.size s ((p : Int) + (j : Int)) (l : Int) wr ∧ Below w.heap.size w wr) (fun st rf i wr => k + 1 - (intOf i).toNat)
        case atStart => exact ⟨0, by omega, rfl, rfl, rfl, by simpa using HR1.out, HB1.out⟩
        case round =>
          obtain ⟨j, hj, rfl, rfl, rfl, hR, hBl⟩ := hrel
          have HR : Hid (Rd w.heap.size s ((p : Int) + (j : Int)) (l : Int) wr) := hR
          have HBl : Hid (Below w.heap.size w wr) := hBl
          clear hR hBl
          by_cases hjk : j < k
          · go_wp2_with (first
              | (go_at_call 6; refine (export_yes w.heap.size w.heap.size (Nat.le_refl _) s ((p : Int) + (j : Int)) l c _ HR.out (by omega) (by omega) (by omega) hm (HYES.out j hjk)).mono ?_; rintro e w2 ⟨rfl, hr2, hb2⟩; have HR2 : Hid (Rd w.heap.size s ((p : Int) + (j : Int) + 1) (l : Int) w2) := hr2; have HB2 : Hid (Below w.heap.size wr w2) := hb2; clear hr2 hb2)
              | (go_at_call 7; refine (pos7 _ _ _ _ _ HR2.out).mono ?_; rintro e w' ⟨rfl, hw'⟩; obtain rfl := hw'.symm))
            go_roundw
            case rel => exact ⟨j + 1, by omega, by go_num, rfl, by go_num, by have := HR2.out; rwa [show (p : Int) + (j : Int) + 1 = (p : Int) + ((j + 1 : Nat) : Int) by omega] at this, HBl.out.trans HB2.out⟩
            case measure => simp [intOf]; omega
          · obtain rfl : j = k := by omega
            go_wp2_with (first
              | (go_at_call 6; refine (export_yes w.heap.size w.heap.size (Nat.le_refl _) s ((p : Int) + (j : Int)) l c _ HR.out (by omega) (by omega) (by omega) hm HLAST.out).mono ?_; rintro e w2 ⟨rfl, hr2, hb2⟩; have HR2 : Hid (Rd w.heap.size s ((p : Int) + (j : Int) + 1) (l : Int) w2) := hr2; have HB2 : Hid (Below w.heap.size wr w2) := hb2; clear hr2 hb2)
              | (go_at_call 7; refine (pos7 _ _ _ _ _ HR2.out).mono ?_; rintro e w' ⟨rfl, hw'⟩; obtain rfl := hw'.symm))
            go_ret
            exact ⟨rfl, HBl.out.trans HB2.out⟩
      · have hcz : (c == 0) = false := by simpa using hc
        have HLAST : Hid ((pk s ((p : Int) + (k : Int)) (l : Int) == c) = false) := (by show _ = false; rw [HE.out, pk_end]; simp; omega)
        clear hc
        have HN : Hid (Rd w.heap.size s (p : Int) l w → True) := fun _ => trivial
        clear HN
        go_wp2_with (first
          | (go_at_call 5; refine (new5 _ _ _ _).mono ?_; rintro e w1 ⟨rfl, hr1, hb1⟩; have HR1 : Hid (Rd w.heap.size s (p : Int) (l : Int) w1) := hr1; have HB1 : Hid (Below w.heap.size w w1) := hb1; clear hr1 hb1))
        go_loopw [14, 15, 16] (fun st rf i wr => ∃ j : Nat, j ≤ k ∧ st = .int .i64 j ∧ rf = .bool false ∧ i = .int .i64 j ∧ Rd w.heap.size s ((p : Int) + (j : Int)) (l : Int) wr ∧ Below w.heap.size w wr) (fun st rf i wr => k + 1 - (intOf i).toNat)
        case atStart => exact ⟨0, by omega, rfl, rfl, rfl, by simpa using HR1.out, HB1.out⟩
        case round =>
          obtain ⟨j, hj, rfl, rfl, rfl, hR, hBl⟩ := hrel
          have HR : Hid (Rd w.heap.size s ((p : Int) + (j : Int)) (l : Int) wr) := hR
          have HBl : Hid (Below w.heap.size w wr) := hBl
          clear hR hBl
          by_cases hjk : j < k
          · go_wp2_with (first
              | (go_at_call 6; refine (export_yes w.heap.size w.heap.size (Nat.le_refl _) s ((p : Int) + (j : Int)) l c _ HR.out (by omega) (by omega) (by omega) hm (HYES.out j hjk)).mono ?_; rintro e w2 ⟨rfl, hr2, hb2⟩; have HR2 : Hid (Rd w.heap.size s ((p : Int) + (j : Int) + 1) (l : Int) w2) := hr2; have HB2 : Hid (Below w.heap.size wr w2) := hb2; clear hr2 hb2)
              | (go_at_call 7; refine (pos7 _ _ _ _ _ HR2.out).mono ?_; rintro e w' ⟨rfl, hw'⟩; obtain rfl := hw'.symm))
            go_roundw
            case rel => exact ⟨j + 1, by omega, by go_num, rfl, by go_num, by have := HR2.out; rwa [show (p : Int) + (j : Int) + 1 = (p : Int) + ((j + 1 : Nat) : Int) by omega] at this, HBl.out.trans HB2.out⟩
            case measure => simp [intOf]; omega
          · obtain rfl : j = k := by omega
            go_wp2_with (first
              | (go_at_call 6; refine (export_no w.heap.size w.heap.size s ((p : Int) + (j : Int)) l c _ HR.out (by omega) (by omega) (by omega) hm HLAST.out).mono ?_; rintro e w2 ⟨rfl, hr2, hb2⟩; have HR2 : Hid (Rd w.heap.size s ((p : Int) + (j : Int)) (l : Int) w2) := hr2; have HB2 : Hid (Below w.heap.size wr w2) := hb2; clear hr2 hb2)
              | (go_at_call 7; refine (pos7 _ _ _ _ _ HR2.out).mono ?_; rintro e w' ⟨rfl, hw'⟩; obtain rfl := hw'.symm))
            go_ret
            exact ⟨rfl, HBl.out.trans HB2.out⟩

end Go.Proofs.Qxb6613951a
