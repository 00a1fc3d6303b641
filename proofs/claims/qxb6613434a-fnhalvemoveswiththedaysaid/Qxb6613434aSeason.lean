import Derived.Test.Qxb6613434aFlC
import Derived.Laws.FloatArith
namespace Go.Proofs.Qxb6613434a.Fl
open Ieee
set_option exponentiation.threshold 3000

theorem HUGE_eq : HUGE = 2 ^ 2098 := by
  have : HUGE = 2 ^ 52 * 2 ^ 2046 := by decide +kernel
  rw [this, ← Nat.pow_add]

theorem pow_le_HUGE {e : Nat} (h : e ≤ 2098) : 2 ^ e ≤ HUGE := by
  rw [HUGE_eq]; exact Nat.pow_le_pow_right (by omega) h

/-- whole numbers of at most 53 digits lie exactly -/
theorem whole_exact (a : Int) (h : a.natAbs < 2 ^ 53) : frnd (a * (2 ^ 1074 : Nat)) = a * (2 ^ 1074 : Nat) := by
  refine frnd_exact a 1074 h ?_
  have h1 : a.natAbs * 2 ^ 1074 ≤ 2 ^ 53 * 2 ^ 1074 := Nat.mul_le_mul_right _ (Nat.le_of_lt h)
  rw [← Nat.pow_add] at h1
  exact Nat.le_trans h1 (pow_le_HUGE (by decide))

theorem whole_fin {w : Nat} {a : Int} (hn : num w) (h : a.natAbs < 2 ^ 53) (hv : V w = a * (2 ^ 1074 : Nat)) : fin w := by
  have hp : 0 < 2 ^ 1074 := Nat.two_pow_pos 1074
  have h1 : 2 ^ 53 * 2 ^ 1074 ≤ HUGE := by rw [← Nat.pow_add]; exact pow_le_HUGE (by decide)
  have e : (V w).natAbs = a.natAbs * 2 ^ 1074 := by rw [hv, Int.natAbs_mul, Int.natAbs_natCast]
  have h2 : a.natAbs * 2 ^ 1074 < 2 ^ 53 * 2 ^ 1074 := Nat.mul_lt_mul_of_pos_right h hp
  generalize 2 ^ 1074 = U at *
  exact fin_of_lt hn (by omega) (by omega)

abbrev c90 : Nat := 4636033603912859648
abbrev c360 : Nat := 4645040803167600640
theorem V90 : V c90 = 90 * (2 ^ 1074 : Nat) := by decide +kernel
theorem V360 : V c360 = 360 * (2 ^ 1074 : Nat) := by decide +kernel
theorem fin90 : fin c90 := by unfold fin; decide +kernel
theorem fin360 : fin c360 := by unfold fin; decide +kernel

theorem ofInt_fin (n : Int) (h : n.natAbs < 2 ^ 53) : fin (floatOfInt .f64 n) ∧ V (floatOfInt .f64 n) = n * (2 ^ 1074 : Nat) := by
  have a := ofInt_num n
  rw [whole_exact n h] at a
  exact ⟨whole_fin a.1 h a.2, a.2⟩

theorem deg (n : Int) (h : n.natAbs < 2 ^ 46) : ∃ r, floatBits .mul .f64 (floatOfInt .f64 n) c90 = some r ∧ fin r ∧ V r = 90 * n * (2 ^ 1074 : Nat) := by
  obtain ⟨f, v⟩ := ofInt_fin n (by omega)
  obtain ⟨r, h1, h2, h3⟩ := mul_fin f fin90 (90 * n * (2 ^ 1074 : Nat)) (by
    rw [v, V90]
    generalize (((2 ^ 1074 : Nat)) : Int) = U
    rw [Int.mul_comm n U, Int.mul_comm 90 U, Int.mul_comm (90 * n) U]
    simp only [Int.mul_assoc, Int.mul_left_comm, Int.mul_comm])
  rw [whole_exact (90 * n) (by omega)] at h3
  exact ⟨r, h1, whole_fin h2 (by omega) h3, h3⟩

theorem season_law (s t : Int) (hs : s.natAbs ≤ 2 ^ 40) (ht : t.natAbs ≤ 2 ^ 40) : ∃ ls lt la sum dif prod : Nat,
    floatBits .mul .f64 (floatOfInt .f64 s) c90 = some ls ∧ floatBits .mul .f64 (floatOfInt .f64 t) c90 = some lt ∧
    floatBits .mul .f64 (floatOfInt .f64 (s + 4)) c90 = some la ∧ floatBits .add .f64 ls c360 = some sum ∧
    floatBits .sub .f64 lt ls = some dif ∧ floatBits .mul .f64 (floatOfInt .f64 (t - s)) c90 = some prod ∧
    FloatKind.f64.format.order la sum = some .eq ∧ FloatKind.f64.format.order dif prod = some .eq ∧
    (FloatKind.f64.format.order ls lt == some .lt) = decide (s < t) := by
  have hp : 0 < 2 ^ 1074 := Nat.two_pow_pos 1074
  obtain ⟨ls, a1, a2, a3⟩ := deg s (by omega)
  obtain ⟨lt, b1, b2, b3⟩ := deg t (by omega)
  obtain ⟨la, c1, c2, c3⟩ := deg (s + 4) (by omega)
  obtain ⟨prod, d1, d2, d3⟩ := deg (t - s) (by omega)
  obtain ⟨sum, e1, e2, e3⟩ := add_fin a2 fin360
  obtain ⟨dif, f1, f2, f3⟩ := sub_fin b2 a2
  have ee : V ls + V c360 = (90 * s + 360) * (2 ^ 1074 : Nat) := by rw [a3, V360, Int.add_mul]
  have fe : V lt - V ls = (90 * t - 90 * s) * (2 ^ 1074 : Nat) := by rw [a3, b3, Int.sub_mul]
  rw [ee, whole_exact _ (by omega)] at e3
  rw [fe, whole_exact _ (by omega)] at f3
  have o1 : double.order la sum = some .eq := by
    rw [order_num (num_of_fin c2) e2, c3, e3, show 90 * (s + 4) = 90 * s + 360 by omega, compare_scale _ _ _ hp]; simp
  have o2 : double.order dif prod = some .eq := by
    rw [order_num f2 (num_of_fin d2), d3, f3, show 90 * (t - s) = 90 * t - 90 * s by omega, compare_scale _ _ _ hp]; simp
  have o3 : (double.order ls lt == some .lt) = decide (s < t) := by
    rw [order_num (num_of_fin a2) (num_of_fin b2), a3, b3, compare_scale _ _ _ hp]
    by_cases h : s < t
    · rw [Int.compare_eq_lt.2 (by omega)]; simp [h]
    · by_cases h' : s = t
      · subst h'; simp
      · rw [Int.compare_eq_gt.2 (by omega)]; simp [h]
  exact ⟨ls, lt, la, sum, dif, prod, a1, b1, c1, e1, f1, d1, o1, o2, o3⟩

end Go.Proofs.Qxb6613434a.Fl
