import Ieee.Arith
namespace Go.Proofs.Qxb6613434a.Fl
open Ieee

def re (n d : Nat) : Nat := n / 2^d + (if 2^d < 2 * (n % 2^d) ∨ (2^d = 2 * (n % 2^d) ∧ n / 2^d % 2 = 1) then 1 else 0)

theorem re_small (n d : Nat) (h : 2 * n < 2 ^ d) : re n d = 0 := by
  unfold re
  have hn : n < 2 ^ d := by omega
  rw [Nat.div_eq_of_lt hn, Nat.mod_eq_of_lt hn, if_neg (by omega)]

theorem cut_even (neg : Bool) (n drop : Nat) : Toward.even.cut neg n drop = re n drop := by
  by_cases h : drop ≤ n.log2 + 2
  · unfold Toward.cut re
    simp only [Nat.min_eq_left h, Nat.one_shiftLeft]
    congr 1
    by_cases h1 : 2^drop < 2 * (n % 2^drop)
    · simp [h1]
    · by_cases h2 : (2^drop = 2 * (n % 2^drop) ∧ n / 2^drop % 2 = 1)
      · rw [if_pos (Or.inr h2)]
        simp only [beq_iff_eq.2 h2.1, beq_iff_eq.2 h2.2]; simp
      · rw [if_neg (by omega)]
        simp [h1]
        intro h3
        have : ¬ (n / 2^drop % 2 = 1) := fun h4 => h2 ⟨h3, h4⟩
        omega
  · have hl : n < 2 ^ (n.log2 + 1) := Nat.lt_log2_self
    have h5 : 2 * n < 2 ^ (n.log2 + 2) := by rw [Nat.pow_succ]; omega
    have h6 : 2 ^ (n.log2 + 2) ≤ 2 ^ drop := Nat.pow_le_pow_right (by omega) (by omega)
    rw [re_small n drop (by omega)]
    unfold Toward.cut
    simp only [Nat.min_eq_right (Nat.le_of_not_le h), Nat.one_shiftLeft]
    have hn : n < 2 ^ (n.log2 + 2) := by omega
    rw [Nat.div_eq_of_lt hn, Nat.mod_eq_of_lt hn]
    simp
    omega

theorem re_scale (n d k : Nat) : re (n * 2 ^ k) (d + k) = re n d := by
  unfold re
  have hk : 0 < 2 ^ k := Nat.two_pow_pos k
  rw [Nat.pow_add, Nat.mul_div_mul_right _ _ hk, Nat.mul_mod_mul_right]
  congr 1
  have e1 : (2 ^ d * 2 ^ k < 2 * (n % 2 ^ d * 2 ^ k)) ↔ 2 ^ d < 2 * (n % 2 ^ d) := by
    rw [← Nat.mul_assoc]; exact Nat.mul_lt_mul_right hk
  have e2 : (2 ^ d * 2 ^ k = 2 * (n % 2 ^ d * 2 ^ k)) ↔ 2 ^ d = 2 * (n % 2 ^ d) := by
    rw [← Nat.mul_assoc]; exact Nat.mul_right_cancel_iff hk
  simp only [e1, e2]

theorem re_mono (n m d : Nat) (h : n ≤ m) : re n d ≤ re m d := by
  have hq : n / 2 ^ d ≤ m / 2 ^ d := Nat.div_le_div_right h
  by_cases e : n / 2 ^ d = m / 2 ^ d
  · have hr : n % 2 ^ d ≤ m % 2 ^ d := by
      have a := Nat.div_add_mod n (2 ^ d); have b := Nat.div_add_mod m (2 ^ d)
      rw [e] at a; omega
    unfold re
    rw [e]
    split <;> split <;> omega
  · unfold re
    split <;> split <;> omega

/-- the error is at most half a unit -/
theorem re_err (n d : Nat) : 2 * (re n d * 2 ^ d) ≤ 2 * n + 2 ^ d ∧ 2 * n ≤ 2 * (re n d * 2 ^ d) + 2 ^ d := by
  have a := Nat.div_add_mod n (2 ^ d)
  have b : n % 2 ^ d < 2 ^ d := Nat.mod_lt _ (Nat.two_pow_pos d)
  unfold re
  rw [Nat.add_mul, Nat.mul_comm (n / 2 ^ d)]
  split <;> omega

theorem re_exact (m d : Nat) : re (m * 2 ^ d) d = m := by
  unfold re
  have hk : 0 < 2 ^ d := Nat.two_pow_pos d
  rw [Nat.mul_div_cancel _ hk, Nat.mul_mod_left, if_neg (by omega)]; rfl

theorem re_zero (n : Nat) : re n 0 = n := by simp [re]; omega


/-! ### rungs -/
def rval (r : Nat) : Nat := if r < 2 ^ 52 then r else (2 ^ 52 + r % 2 ^ 52) * 2 ^ (r / 2 ^ 52 - 1)
def rg (n : Nat) : Nat := (n.log2 - 52) * 2 ^ 52 + re n (n.log2 - 52)
def rnd (n : Nat) : Nat := re n (n.log2 - 52) * 2 ^ (n.log2 - 52)

theorem rval_succ (r : Nat) : rval r < rval (r + 1) := by
  unfold rval
  by_cases h : r + 1 < 2 ^ 52
  · rw [if_pos (by omega), if_pos h]; omega
  · by_cases h1 : r < 2 ^ 52
    · obtain rfl : r = 2 ^ 52 - 1 := by omega
      decide
    · rw [if_neg h1, if_neg h]
      have a := Nat.div_add_mod r (2 ^ 52)
      have b : r % 2 ^ 52 < 2 ^ 52 := Nat.mod_lt _ (by decide)
      have hq : 1 ≤ r / 2 ^ 52 := by omega
      by_cases h2 : r % 2 ^ 52 + 1 < 2 ^ 52
      · have e1 : (r + 1) / 2 ^ 52 = r / 2 ^ 52 := by omega
        have e2 : (r + 1) % 2 ^ 52 = r % 2 ^ 52 + 1 := by omega
        rw [e1, e2]
        exact Nat.mul_lt_mul_of_pos_right (by omega) (Nat.two_pow_pos _)
      · have e1 : (r + 1) / 2 ^ 52 = (r / 2 ^ 52 - 1) + 1 + 1 := by omega
        have e2 : (r + 1) % 2 ^ 52 = 0 := by omega
        rw [e1, e2, Nat.add_sub_cancel, Nat.pow_succ 2 (r / 2 ^ 52 - 1), Nat.mul_comm _ 2, ← Nat.mul_assoc]
        exact Nat.mul_lt_mul_of_pos_right (by omega) (Nat.two_pow_pos _)

theorem rval_lt {r s : Nat} (h : r < s) : rval r < rval s := by
  induction s with
  | zero => omega
  | succ s ih =>
    by_cases e : r = s
    · subst e; exact rval_succ r
    · exact Nat.lt_trans (ih (by omega)) (rval_succ s)

theorem rval_le {r s : Nat} (h : r ≤ s) : rval r ≤ rval s := by
  by_cases e : r = s
  · subst e; exact Nat.le_refl _
  · exact Nat.le_of_lt (rval_lt (by omega))

theorem lt_of_rval {r s : Nat} (h : rval r < rval s) : r < s := by
  by_cases e : r < s
  · exact e
  · have := rval_le (Nat.le_of_not_lt e); omega

theorem rval_zero : rval 0 = 0 := rfl

theorem log2_lo (n : Nat) (h : n ≠ 0) : 2 ^ n.log2 ≤ n := Nat.log2_self_le h
theorem log2_hi (n : Nat) : n < 2 ^ (n.log2 + 1) := Nat.lt_log2_self

theorem re_range (n : Nat) (h : 52 < n.log2) : 2 ^ 52 ≤ re n (n.log2 - 52) ∧ re n (n.log2 - 52) ≤ 2 ^ 53 := by
  have h0 : n ≠ 0 := by intro e; subst e; simp at h
  have a := log2_lo n h0
  have b := log2_hi n
  have e : n.log2 = 52 + (n.log2 - 52) := by omega
  have e1 : n.log2 + 1 = 53 + (n.log2 - 52) := by omega
  rw [e, Nat.pow_add] at a
  rw [e1, Nat.pow_add] at b
  have m1 := re_mono _ _ (n.log2 - 52) a
  have m2 := re_mono _ _ (n.log2 - 52) (Nat.le_of_lt b)
  rw [re_exact] at m1
  rw [re_exact] at m2
  exact ⟨m1, m2⟩

theorem rval_rg (n : Nat) : rval (rg n) = rnd n := by
  unfold rg rnd
  by_cases h : 52 < n.log2
  · obtain ⟨lo, hi⟩ := re_range n h
    generalize re n (n.log2 - 52) = K at lo hi
    obtain ⟨D, hD⟩ : ∃ D, n.log2 - 52 = D + 1 := ⟨n.log2 - 53, by omega⟩
    rw [hD]
    unfold rval
    rw [if_neg (by omega)]
    by_cases hk : K = 2 ^ 53
    · subst hk
      have e1 : ((D + 1) * 2 ^ 52 + 2 ^ 53) / 2 ^ 52 = D + 2 + 1 := by omega
      have e2 : ((D + 1) * 2 ^ 52 + 2 ^ 53) % 2 ^ 52 = 0 := by omega
      rw [e1, e2, Nat.add_sub_cancel, Nat.pow_succ 2 (D + 1)]
      generalize 2 ^ (D + 1) = z
      omega
    · have e1 : ((D + 1) * 2 ^ 52 + K) / 2 ^ 52 = D + 1 + 1 := by omega
      have e2 : 2 ^ 52 + ((D + 1) * 2 ^ 52 + K) % 2 ^ 52 = K := by omega
      rw [e1, e2, Nat.add_sub_cancel]
  · have e : n.log2 - 52 = 0 := by omega
    rw [e, re_zero, Nat.zero_mul, Nat.zero_add, Nat.pow_zero, Nat.mul_one]
    have b := log2_hi n
    have : n < 2 ^ 53 := Nat.lt_of_lt_of_le b (Nat.pow_le_pow_right (by omega) (by omega))
    unfold rval
    by_cases h1 : n < 2 ^ 52
    · rw [if_pos h1]
    · rw [if_neg h1]
      have e1 : n / 2 ^ 52 = 1 := by omega
      rw [e1]
      omega

theorem log2_mono {n m : Nat} (h : n ≤ m) : n.log2 ≤ m.log2 := by
  by_cases h0 : n = 0
  · subst h0; simp
  · have hm : m ≠ 0 := by omega
    rw [Nat.le_log2 hm]
    exact Nat.le_trans (log2_lo n h0) h

theorem rg_mono {n m : Nat} (h : n ≤ m) : rg n ≤ rg m := by
  have hl := log2_mono h
  unfold rg
  by_cases e : n.log2 - 52 = m.log2 - 52
  · rw [e]; have := re_mono n m (m.log2 - 52) h; omega
  · have hm : 52 < m.log2 := by omega
    obtain ⟨lo, _⟩ := re_range m hm
    have hi : re n (n.log2 - 52) ≤ 2 ^ 53 := by
      by_cases hn : 52 < n.log2
      · exact (re_range n hn).2
      · have e0 : n.log2 - 52 = 0 := by omega
        rw [e0, re_zero]
        have b := log2_hi n
        exact Nat.le_of_lt (Nat.lt_of_lt_of_le b (Nat.pow_le_pow_right (by omega) (by omega)))
    have : n.log2 - 52 + 1 ≤ m.log2 - 52 := by omega
    have := Nat.mul_le_mul_right (2 ^ 52) this
    omega

theorem rnd_mono {n m : Nat} (h : n ≤ m) : rnd n ≤ rnd m := by
  rw [← rval_rg, ← rval_rg]; exact rval_le (rg_mono h)

theorem log2_scale {m : Nat} (h0 : m ≠ 0) (e : Nat) : (m * 2 ^ e).log2 = m.log2 + e := by
  have hp : 0 < 2 ^ e := Nat.two_pow_pos e
  have hne : m * 2 ^ e ≠ 0 := by
    have := Nat.mul_pos (Nat.pos_of_ne_zero h0) hp; omega
  rw [Nat.log2_eq_iff hne]
  have a := log2_lo m h0
  have b := log2_hi m
  constructor
  · rw [Nat.pow_add]; exact Nat.mul_le_mul_right _ a
  · rw [show m.log2 + e + 1 = m.log2 + 1 + e by omega, Nat.pow_add]; exact Nat.mul_lt_mul_of_pos_right b hp

/-- what has at most 53 binary digits is kept -/
theorem rnd_exact (m e : Nat) (h : m < 2 ^ 53) : rnd (m * 2 ^ e) = m * 2 ^ e := by
  unfold rnd
  by_cases h0 : m = 0
  · subst h0; simp [re]
  · have hlm : m.log2 < 53 := (Nat.log2_lt h0).2 h
    have hl : (m * 2 ^ e).log2 = m.log2 + e := log2_scale h0 e
    obtain ⟨j, hj⟩ : ∃ j, e = (m * 2 ^ e).log2 - 52 + j := ⟨e - ((m * 2 ^ e).log2 - 52), by omega⟩
    generalize (m * 2 ^ e).log2 - 52 = D at hj
    subst hj
    rw [Nat.add_comm D j, Nat.pow_add, ← Nat.mul_assoc, re_exact]

theorem rval_form (r : Nat) : ∃ m e, m < 2 ^ 53 ∧ rval r = m * 2 ^ e := by
  unfold rval
  split
  · exact ⟨r, 0, by omega, by simp⟩
  · exact ⟨2 ^ 52 + r % 2 ^ 52, _, by have : r % 2 ^ 52 < 2 ^ 52 := Nat.mod_lt _ (by decide)
                                      omega, rfl⟩

theorem rnd_rval (r : Nat) : rnd (rval r) = rval r := by
  obtain ⟨m, e, hm, he⟩ := rval_form r
  rw [he]; exact rnd_exact m e hm

/-- the error of rounding what lies below '2 ^ (53 + b)' -/
theorem rnd_err (n b : Nat) (h : n < 2 ^ (53 + b)) : 2 * rnd n ≤ 2 * n + 2 ^ b ∧ 2 * n ≤ 2 * rnd n + 2 ^ b := by
  have a := re_err n (n.log2 - 52)
  have hb : 2 ^ (n.log2 - 52) ≤ 2 ^ b := by
    apply Nat.pow_le_pow_right (by omega)
    by_cases h0 : n = 0
    · subst h0; simp
    · have := (Nat.log2_lt h0).2 h; omega
  unfold rnd
  omega

end Go.Proofs.Qxb6613434a.Fl
