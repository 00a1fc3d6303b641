import Derived.Test.Qxb6613434aFlA
import Derived.Laws.FloatBits
namespace Go.Proofs.Qxb6613434a.Fl
open Ieee

/-! ### the word nearest to a number, in units of the least place -/
theorem lp_eq : double.leastPlace = -1074 := by decide
theorem binade_eq : double.binade = 2 ^ 52 := by decide
theorem sw_eq : double.signWeight = 2 ^ 63 := by decide
theorem inf_eq : double.infRung = 2047 * 2 ^ 52 := by decide
theorem fb_eq : double.fractionBits = 52 := rfl

theorem shl (a k : Nat) : a <<< k = a * 2 ^ k := Nat.shiftLeft_eq a k

theorem nearest_scale (neg : Bool) (mag : Nat) (place : Int) (j : Nat) : double.nearest neg (mag * 2 ^ j) (place - j) = double.nearest neg mag place := by
  by_cases h0 : mag = 0
  · subst h0; simp [Format.nearest]
  · have hp : 0 < 2 ^ j := Nat.two_pow_pos j
    have hne : mag * 2 ^ j ≠ 0 := by
      have := Nat.mul_pos (Nat.pos_of_ne_zero h0) hp; omega
    unfold Format.nearest
    rw [if_neg hne, if_neg h0]
    simp only [cut_even, shl, log2_scale h0 j]
    have e1 : place - (j : Int) + ((mag.log2 + j : Nat) : Int) - (double.fractionBits : Int) = place + (mag.log2 : Int) - (double.fractionBits : Int) := by omega
    rw [e1]
    generalize max (place + (mag.log2 : Int) - (double.fractionBits : Int)) double.leastPlace = last
    have key : re (mag * 2 ^ j * 2 ^ (place - j - last).toNat) (last - (place - j)).toNat = re (mag * 2 ^ (place - last).toNat) (last - place).toNat := by
      by_cases c1 : last ≤ place
      · obtain ⟨a, ha⟩ : ∃ a : Nat, place = last + a := ⟨(place - last).toNat, by omega⟩
        subst ha
        have z1 : (last - (last + (a : Int))).toNat = 0 := by omega
        have z2 : (last + (a : Int) - last).toNat = a := by omega
        rw [z1, z2]
        by_cases c2 : j ≤ a
        · obtain ⟨b, hb⟩ : ∃ b : Nat, a = j + b := ⟨a - j, by omega⟩
          subst hb
          have z3 : (last + ((j + b : Nat) : Int) - (j : Int) - last).toNat = b := by omega
          have z4 : (last - (last + ((j + b : Nat) : Int) - (j : Int))).toNat = 0 := by omega
          rw [z3, z4, Nat.pow_add, Nat.mul_assoc]
        · obtain ⟨b, hb⟩ : ∃ b : Nat, j = a + b := ⟨j - a, by omega⟩
          subst hb
          have z3 : (last + (a : Int) - ((a + b : Nat) : Int) - last).toNat = 0 := by omega
          have z4 : (last - (last + (a : Int) - ((a + b : Nat) : Int))).toNat = 0 + b := by omega
          rw [z3, z4, Nat.pow_add, ← Nat.mul_assoc, Nat.pow_zero, Nat.mul_one, re_scale]
      · obtain ⟨a, ha⟩ : ∃ a : Nat, last = place + a := ⟨(last - place).toNat, by omega⟩
        subst ha
        have z1 : (place + (a : Int) - place).toNat = a := by omega
        have z2 : (place - (place + (a : Int))).toNat = 0 := by omega
        have z3 : (place - (j : Int) - (place + (a : Int))).toNat = 0 := by omega
        have z4 : (place + (a : Int) - (place - (j : Int))).toNat = a + j := by omega
        rw [z1, z2, z3, z4, Nat.pow_zero, Nat.mul_one, Nat.mul_one, re_scale]
    rw [key]

theorem rg_zero : rg 0 = 0 := by simp [rg, re]

theorem nearest_lp (neg : Bool) (n : Nat) : double.nearest neg n double.leastPlace = double.word neg (min (rg n) double.infRung) := by
  by_cases h0 : n = 0
  · subst h0; simp [Format.nearest, rg_zero]
  · unfold Format.nearest
    rw [if_neg h0]
    simp only [cut_even, shl, fb_eq, binade_eq]
    generalize double.leastPlace = lp
    have e1 : max (lp + (n.log2 : Int) - ((52 : Nat) : Int)) lp = lp + ((n.log2 - 52 : Nat) : Int) := by omega
    rw [e1]
    have z1 : (lp - (lp + ((n.log2 - 52 : Nat) : Int))).toNat = 0 := by omega
    have z2 : (lp + ((n.log2 - 52 : Nat) : Int) - lp).toNat = n.log2 - 52 := by omega
    rw [z1, z2, Nat.pow_zero, Nat.mul_one]
    rfl

theorem nearest_up (neg : Bool) (mag k : Nat) (place : Int) (h : place = double.leastPlace + k) : double.nearest neg mag place = double.word neg (min (rg (mag * 2 ^ k)) double.infRung) := by
  rw [← nearest_lp, ← nearest_scale neg mag place k]
  congr 1; omega

theorem nearest_down (neg : Bool) (n k : Nat) (place : Int) (h : place = double.leastPlace - k) : double.nearest neg (n * 2 ^ k) place = double.word neg (min (rg n) double.infRung) := by
  rw [h, nearest_scale, nearest_lp]

theorem nearest_half (neg : Bool) (n : Nat) (hn : n < 2 ^ 53) : double.nearest neg n (double.leastPlace - 1) = double.word neg (re n 1) := by
  by_cases h0 : n = 0
  · subst h0; simp [Format.nearest, re]
  · unfold Format.nearest
    rw [if_neg h0]
    have hl : n.log2 < 53 := (Nat.log2_lt h0).2 hn
    simp only [cut_even, shl, fb_eq, binade_eq]
    have hr : re n 1 ≤ double.infRung := by
      rw [inf_eq]; unfold re; split <;> omega
    generalize double.leastPlace = lp
    have e1 : max (lp - 1 + (n.log2 : Int) - ((52 : Nat) : Int)) lp = lp := by omega
    rw [e1]
    have z1 : (lp - 1 - lp).toNat = 0 := by omega
    have z2 : (lp - (lp - 1)).toNat = 1 := by omega
    have z3 : (lp - lp).toNat = 0 := by omega
    rw [z1, z2, z3, Nat.pow_zero, Nat.mul_one, Nat.zero_mul, Nat.zero_add, Nat.min_eq_left hr]

/-! ### the value of a word, in units of the least place; an infinity: the rung's own -/
def sgn (w : Nat) : Bool := w / double.signWeight % 2 == 1
def rung (w : Nat) : Nat := w % double.signWeight
def V (w : Nat) : Int := if sgn w then -(rval (rung w) : Int) else (rval (rung w) : Int)
def fin (w : Nat) : Prop := rung w < double.infRung
def num (w : Nat) : Prop := rung w ≤ double.infRung

theorem sgn_word (neg : Bool) (r : Nat) (h : r < double.signWeight) : sgn (double.word neg r) = neg := by
  rw [sw_eq] at h
  unfold sgn Format.word
  rw [sw_eq]
  cases neg
  · have e : r / 2 ^ 63 = 0 := Nat.div_eq_of_lt h
    simp only [Bool.false_eq_true, if_false, e]; rfl
  · have e : (2 ^ 63 + r) / 2 ^ 63 = 1 := by omega
    simp only [if_true, e]; rfl

theorem rung_word (neg : Bool) (r : Nat) (h : r < double.signWeight) : rung (double.word neg r) = r := by
  rw [sw_eq] at h
  unfold rung Format.word
  rw [sw_eq]
  cases neg
  · simp only [Bool.false_eq_true, if_false]; omega
  · simp only [if_true]; omega

theorem V_word (neg : Bool) (r : Nat) (h : r < double.signWeight) : V (double.word neg r) = if neg then -(rval r : Int) else (rval r : Int) := by
  unfold V
  rw [sgn_word neg r h, rung_word neg r h]

/-- what a finite word reads as -/
theorem read_fin {w : Nat} (h : fin w) : ∃ m k : Nat, double.read w = .number (sgn w) m (double.leastPlace + k) ∧ m * 2 ^ k = rval (rung w) ∧ m < 2 ^ 53 ∧ (k = 0 ∨ 2 ^ 52 ≤ m) := by
  unfold fin at h
  unfold Format.read
  simp only [binade_eq]
  by_cases c : rung w < 2 ^ 52
  · refine ⟨rung w, 0, ?_, ?_, by omega, Or.inl rfl⟩
    · unfold rung at c
      simp only [c, if_true]; simp [sgn, rung]
    · simp [rval, c]
  · refine ⟨2 ^ 52 + rung w % 2 ^ 52, rung w / 2 ^ 52 - 1, ?_, ?_, ?_, Or.inr (by omega)⟩
    · unfold rung at c h
      simp only [c, if_false, h, if_true]; rfl
    · simp [rval, c]
    · have : rung w % 2 ^ 52 < 2 ^ 52 := Nat.mod_lt _ (by decide)
      omega

theorem read_inf {w : Nat} (h : rung w = double.infRung) : double.read w = .infinity (sgn w) := by
  unfold rung at h
  unfold Format.read
  simp only [h, binade_eq, inf_eq]
  rfl

theorem read_nan {w : Nat} (h : ¬ num w) : ∃ t, double.read w = .nan (sgn w) t := by
  unfold num at h
  have h' : ¬ (w % double.signWeight ≤ double.infRung) := h
  rw [inf_eq] at h'
  refine ⟨w % double.signWeight - double.infRung, ?_⟩
  unfold Format.read
  have c1 : ¬ (w % double.signWeight < 2 ^ 52) := by omega
  have c2 : ¬ (w % double.signWeight < 2047 * 2 ^ 52) := by omega
  have c3 : ¬ (w % double.signWeight = 2047 * 2 ^ 52) := by omega
  simp only [binade_eq, inf_eq, c1, c2, c3, if_false]; rfl

def HUGE : Nat := rval double.infRung
theorem fin_lt {w : Nat} (h : fin w) : -(HUGE : Int) < V w ∧ V w < HUGE := by
  have a : rval (rung w) < HUGE := rval_lt h
  unfold V
  split <;> omega
theorem V_inf {w : Nat} (h : rung w = double.infRung) : V w = if sgn w then -(HUGE : Int) else HUGE := by
  unfold V; rw [h]; rfl
theorem num_cases {w : Nat} (h : num w) : fin w ∨ rung w = double.infRung := by
  unfold num at h; unfold fin; omega
theorem num_of_fin {w : Nat} (h : fin w) : num w := Nat.le_of_lt h

theorem signed_eq (s : Bool) (m k : Nat) : signed s m k = if s then -((m * 2 ^ k : Nat) : Int) else ((m * 2 ^ k : Nat) : Int) := by
  unfold signed; rw [shl]

/-- the value out of a reading -/
theorem V_read {w : Nat} {m k : Nat} (h : m * 2 ^ k = rval (rung w)) : V w = signed (sgn w) m k := by
  unfold V; rw [signed_eq, h]

theorem signed_scale (s : Bool) (m a b : Nat) : signed s m (a + b) = signed s m a * (2 ^ b : Nat) := by
  rw [signed_eq, signed_eq, Nat.pow_add, ← Nat.mul_assoc]
  cases s
  · simp only [Bool.false_eq_true, if_false]; rw [Int.natCast_mul]
  · simp only [if_true]; rw [Int.natCast_mul (m * 2 ^ a), Int.neg_mul]

theorem compare_scale (a b : Int) (c : Nat) (hc : 0 < c) : compare (a * c) (b * c) = compare a b := by
  have hc' : (0 : Int) < c := by omega
  by_cases h1 : a < b
  · rw [Int.compare_eq_lt.2 h1, Int.compare_eq_lt.2 (Int.mul_lt_mul_of_pos_right h1 hc')]
  · by_cases h2 : b < a
    · rw [Int.compare_eq_gt.2 h2, Int.compare_eq_gt.2 (Int.mul_lt_mul_of_pos_right h2 hc')]
    · have : a = b := by omega
      subst this
      simp

theorem order_num {x y : Nat} (hx : num x) (hy : num y) : double.order x y = some (compare (V x) (V y)) := by
  unfold Format.order
  rcases num_cases hx with fx | ix <;> rcases num_cases hy with fy | iy
  · obtain ⟨m, k, rx, ex, _, _⟩ := read_fin fx
    obtain ⟨n, l, ry, ey, _, _⟩ := read_fin fy
    rw [rx, ry, V_read ex, V_read ey]
    simp only [Datum.order]
    congr 1
    generalize double.leastPlace = lp
    by_cases c : k ≤ l
    · have e : min (lp + (k : Int)) (lp + (l : Int)) = lp + k := by omega
      rw [e]
      have z1 : (lp + (k : Int) - (lp + (k : Int))).toNat = 0 := by omega
      have z2 : (lp + (l : Int) - (lp + (k : Int))).toNat = l - k := by omega
      rw [z1, z2]
      have e1 := signed_scale (sgn x) m 0 k
      have e2 := signed_scale (sgn y) n (l - k) k
      rw [Nat.zero_add] at e1
      rw [Nat.sub_add_cancel c] at e2
      rw [e1, e2, compare_scale _ _ _ (Nat.two_pow_pos k)]
    · have e : min (lp + (k : Int)) (lp + (l : Int)) = lp + l := by omega
      rw [e]
      have z1 : (lp + (l : Int) - (lp + (l : Int))).toNat = 0 := by omega
      have z2 : (lp + (k : Int) - (lp + (l : Int))).toNat = k - l := by omega
      rw [z1, z2]
      have e1 := signed_scale (sgn x) m (k - l) l
      have e2 := signed_scale (sgn y) n 0 l
      rw [Nat.zero_add] at e2
      rw [Nat.sub_add_cancel (by omega)] at e1
      rw [e1, e2, compare_scale _ _ _ (Nat.two_pow_pos l)]
  · obtain ⟨m, k, rx, ex, _, _⟩ := read_fin fx
    have lx := fin_lt fx
    rw [rx, read_inf iy, V_inf iy]
    simp only [Datum.order]
    cases sgn y
    · simp only [Bool.false_eq_true, if_false]; rw [Int.compare_eq_lt.2 lx.2]
    · simp only [if_true]; rw [Int.compare_eq_gt.2 lx.1]
  · obtain ⟨m, k, ry, ey, _, _⟩ := read_fin fy
    have ly := fin_lt fy
    rw [ry, read_inf ix, V_inf ix]
    simp only [Datum.order]
    cases sgn x
    · simp only [Bool.false_eq_true, if_false]; rw [Int.compare_eq_gt.2 ly.2]
    · simp only [if_true]; rw [Int.compare_eq_lt.2 ly.1]
  · have hh : (0 : Int) < HUGE := by
      have : rval 0 < HUGE := rval_lt (by rw [inf_eq]; decide)
      rw [rval_zero] at this; omega
    rw [read_inf ix, read_inf iy, V_inf ix, V_inf iy]
    simp only [Datum.order]
    cases sgn x <;> cases sgn y
    · simp
    · simp only [Bool.false_eq_true, if_false, if_true]; rw [Int.compare_eq_gt.2 (by omega)]; rfl
    · simp only [Bool.false_eq_true, if_false, if_true]; rw [Int.compare_eq_lt.2 (by omega)]; rfl
    · simp

theorem order_nan_left {x y : Nat} (hx : ¬ num x) : double.order x y = none := by
  obtain ⟨t, h⟩ := read_nan hx
  unfold Format.order; rw [h]; simp [Datum.order]
theorem order_nan_right {x y : Nat} (hy : ¬ num y) : double.order x y = none := by
  obtain ⟨t, h⟩ := read_nan hy
  unfold Format.order; rw [h]; cases double.read x <;> simp [Datum.order]

end Go.Proofs.Qxb6613434a.Fl
