import Derived.Test.Qxb6613434aFlB
namespace Go.Proofs.Qxb6613434a.Fl
open Ieee

/-! ### rounding whole numbers of units -/
def frnd (z : Int) : Int := if z < 0 then -((min (rnd z.natAbs) HUGE : Nat) : Int) else ((min (rnd z.natAbs) HUGE : Nat) : Int)

theorem frnd_mono {a b : Int} (h : a ≤ b) : frnd a ≤ frnd b := by
  unfold frnd
  by_cases ha : a < 0 <;> by_cases hb : b < 0
  · have := rnd_mono (show b.natAbs ≤ a.natAbs by omega)
    rw [if_pos ha, if_pos hb]; omega
  · rw [if_pos ha, if_neg hb]; omega
  · omega
  · have := rnd_mono (show a.natAbs ≤ b.natAbs by omega)
    rw [if_neg ha, if_neg hb]; omega

theorem frnd_neg (z : Int) : frnd (-z) = - frnd z := by
  unfold frnd
  have e : (-z).natAbs = z.natAbs := by omega
  rw [e]
  by_cases h : z < 0
  · rw [if_pos h, if_neg (by omega)]; omega
  · rw [if_neg h]
    by_cases h0 : z = 0
    · subst h0; rw [if_neg (by omega)]
      have : rnd (0 : Int).natAbs = 0 := rfl
      rw [this]; simp
    · rw [if_pos (by omega)]

theorem frnd_V {w : Nat} (h : num w) : frnd (V w) = V w := by
  have a : rval (rung w) ≤ HUGE := rval_le h
  have key : min (rnd (rval (rung w))) HUGE = rval (rung w) := by rw [rnd_rval]; omega
  unfold V
  by_cases s : sgn w = true
  · rw [if_pos s, frnd_neg]
    unfold frnd
    rw [if_neg (by omega), Int.natAbs_natCast, key]
  · rw [if_neg s]
    unfold frnd
    rw [if_neg (by omega), Int.natAbs_natCast, key]

/-- what has at most 53 binary digits is kept -/
theorem frnd_exact (a : Int) (e : Nat) (h : a.natAbs < 2 ^ 53) (hh : a.natAbs * 2 ^ e ≤ HUGE) : frnd (a * (2 ^ e : Nat)) = a * (2 ^ e : Nat) := by
  have key : rnd (a * (2 ^ e : Nat)).natAbs = a.natAbs * 2 ^ e := by
    rw [Int.natAbs_mul, Int.natAbs_natCast, rnd_exact _ _ h]
  unfold frnd
  rw [key, Nat.min_eq_left hh]
  have hp : (0 : Int) < ((2 ^ e : Nat) : Int) := by have := Nat.two_pow_pos e; omega
  have ec : ((a.natAbs * 2 ^ e : Nat) : Int) = (a.natAbs : Int) * ((2 ^ e : Nat) : Int) := Int.natCast_mul _ _
  rw [ec]
  by_cases ha : a < 0
  · rw [if_pos (Int.mul_neg_of_neg_of_pos ha hp), ← Int.neg_mul]; congr 1; omega
  · rw [if_neg (by have := Int.mul_nonneg (show 0 ≤ a by omega) (Int.le_of_lt hp); omega)]; congr 1; omega

theorem frnd_err (z : Int) (b : Nat) (h : z.natAbs < 2 ^ (53 + b)) (hh : 2 ^ (53 + b) ≤ HUGE) : 2 * frnd z ≤ 2 * z + (2 ^ b : Nat) ∧ 2 * z ≤ 2 * frnd z + (2 ^ b : Nat) := by
  have a := rnd_err z.natAbs b h
  have c : rnd z.natAbs ≤ HUGE := by
    have m := rnd_mono (Nat.le_of_lt h)
    have e : rnd (2 ^ (53 + b)) = 2 ^ (53 + b) := by
      have := rnd_exact 1 (53 + b) (by decide)
      rwa [Nat.one_mul] at this
    omega
  unfold frnd
  rw [Nat.min_eq_left c]
  split <;> omega

theorem rval_min (n : Nat) : rval (min (rg n) double.infRung) = min (rnd n) HUGE := by
  rw [← rval_rg]
  unfold HUGE
  by_cases h : rg n ≤ double.infRung
  · rw [Nat.min_eq_left h, Nat.min_eq_left (rval_le h)]
  · have h' : double.infRung ≤ rg n := by omega
    rw [Nat.min_eq_right h', Nat.min_eq_right (rval_le h')]

theorem min_sw (n : Nat) : min n double.infRung < double.signWeight := Nat.lt_of_le_of_lt (Nat.min_le_right ..) double.infRung_lt

theorem num_word (neg : Bool) (n : Nat) : num (double.word neg (min n double.infRung)) := by
  unfold num; rw [rung_word _ _ (min_sw n)]; exact Nat.min_le_right ..

theorem fin_of_lt {w : Nat} (h : num w) (a : -(HUGE : Int) < V w) (b : V w < HUGE) : fin w := by
  rcases num_cases h with f | i
  · exact f
  · rw [V_inf i] at a b
    cases hs : sgn w <;> rw [hs] at a b <;> simp at a b

/-- the nearest word's value: the sign as a sum gives it -/
theorem V_nearest (neg : Bool) (n : Nat) (z : Int) (hz : z.natAbs = n) (hs : z ≠ 0 → (neg = true ↔ z < 0)) : V (double.word neg (min (rg n) double.infRung)) = frnd z := by
  rw [V_word _ _ (min_sw _), rval_min]
  unfold frnd
  rw [hz]
  by_cases h0 : z = 0
  · subst h0
    have : n = 0 := by omega
    subst this
    have : rnd 0 = 0 := rfl
    rw [this]; cases neg <;> simp
  · have := hs h0
    by_cases hn : neg = true
    · rw [if_pos hn, if_pos (this.1 hn)]
    · rw [if_neg hn, if_neg (fun h => hn (this.2 h))]

theorem sum_num (s t : Bool) (m n k l : Nat) : ∃ neg, (Datum.sum (.number s m (double.leastPlace + k)) (.number t n (double.leastPlace + l))).map double.write = some (double.word neg (min (rg (signed s m k + signed t n l).natAbs) double.infRung)) ∧ (signed s m k + signed t n l ≠ 0 → (neg = true ↔ signed s m k + signed t n l < 0)) := by
  simp only [Datum.sum, Option.map_some, Format.write]
  have up := nearest_up
  generalize double.leastPlace = lp at up
  have main : ∀ b k' l' : Nat, k = k' + b → l = l' + b → min (lp + (k : Int)) (lp + (l : Int)) = lp + b → ∃ neg,
      some (double.nearest (if signed s m (lp + (k : Int) - (lp + (b : Int))).toNat + signed t n (lp + (l : Int) - (lp + (b : Int))).toNat = 0 then s && t else decide (signed s m (lp + (k : Int) - (lp + (b : Int))).toNat + signed t n (lp + (l : Int) - (lp + (b : Int))).toNat < 0)) (signed s m (lp + (k : Int) - (lp + (b : Int))).toNat + signed t n (lp + (l : Int) - (lp + (b : Int))).toNat).natAbs (lp + b)) = some (double.word neg (min (rg (signed s m k + signed t n l).natAbs) double.infRung)) ∧ (signed s m k + signed t n l ≠ 0 → (neg = true ↔ signed s m k + signed t n l < 0)) := by
    intro b k' l' hk hl _
    have z1 : (lp + (k : Int) - (lp + (b : Int))).toNat = k' := by omega
    have z2 : (lp + (l : Int) - (lp + (b : Int))).toNat = l' := by omega
    rw [z1, z2]
    have e1 := signed_scale s m k' b
    have e2 := signed_scale t n l' b
    rw [← hk] at e1
    rw [← hl] at e2
    rw [e1, e2, ← Int.add_mul]
    generalize signed s m k' + signed t n l' = total
    have hp : (0 : Int) < ((2 ^ b : Nat) : Int) := by have := Nat.two_pow_pos b; omega
    refine ⟨if total = 0 then s && t else decide (total < 0), ?_, ?_⟩
    · rw [up _ _ b _ rfl, Int.natAbs_mul, Int.natAbs_natCast]
    · intro hne
      have h0 : total ≠ 0 := by intro h; apply hne; rw [h, Int.zero_mul]
      rw [if_neg h0, decide_eq_true_eq]
      constructor
      · intro h; exact Int.mul_neg_of_neg_of_pos h hp
      · intro h
        by_cases c : total < 0
        · exact c
        · have := Int.mul_nonneg (show 0 ≤ total by omega) (Int.le_of_lt hp); omega
  by_cases c : k ≤ l
  · have e : min (lp + (k : Int)) (lp + (l : Int)) = lp + k := by omega
    have := main k 0 (l - k) (by omega) (by omega) e
    rw [e]; exact this
  · have e : min (lp + (k : Int)) (lp + (l : Int)) = lp + l := by omega
    have := main l (k - l) 0 (by omega) (by omega) e
    rw [e]; exact this

theorem signed_not (s : Bool) (m k : Nat) : signed (!s) m k = - signed s m k := by
  rw [signed_eq, signed_eq]; cases s <;> simp

theorem add_fin {x y : Nat} (hx : fin x) (hy : fin y) : ∃ r, double.add x y = some r ∧ num r ∧ V r = frnd (V x + V y) := by
  obtain ⟨m, k, rx, ex, _, _⟩ := read_fin hx
  obtain ⟨n, l, ry, ey, _, _⟩ := read_fin hy
  unfold Format.add
  rw [rx, ry, V_read ex, V_read ey]
  obtain ⟨neg, h1, h2⟩ := sum_num (sgn x) (sgn y) m n k l
  exact ⟨_, h1, num_word _ _, V_nearest _ _ _ rfl h2⟩

theorem sub_fin {x y : Nat} (hx : fin x) (hy : fin y) : ∃ r, double.sub x y = some r ∧ num r ∧ V r = frnd (V x - V y) := by
  obtain ⟨m, k, rx, ex, _, _⟩ := read_fin hx
  obtain ⟨n, l, ry, ey, _, _⟩ := read_fin hy
  unfold Format.sub
  rw [rx, ry, V_read ex, V_read ey]
  simp only [Datum.opposite]
  obtain ⟨neg, h1, h2⟩ := sum_num (sgn x) (!sgn y) m n k l
  rw [signed_not, ← Int.sub_eq_add_neg] at h1 h2
  exact ⟨_, h1, num_word _ _, V_nearest _ _ _ rfl h2⟩

theorem add_inf {x y : Nat} (hx : rung x = double.infRung) (hy : fin y) : ∃ r, double.add x y = some r ∧ num r ∧ V r = V x := by
  obtain ⟨n, l, ry, ey, _, _⟩ := read_fin hy
  unfold Format.add
  rw [read_inf hx, ry]
  have h1 : double.infRung < double.signWeight := double.infRung_lt
  refine ⟨_, rfl, ?_, ?_⟩
  · show num (double.word _ _)
    unfold num; rw [rung_word _ _ h1]; exact Nat.le_refl _
  · show V (double.word _ _) = _
    rw [V_word _ _ h1, V_inf hx]; rfl

/-- a sum with a finite word does not turn the order -/
theorem add_le {x y k : Nat} (hx : num x) (hy : num y) (hk : fin k) (h : V x ≤ V y) : ∃ r s, double.add x k = some r ∧ double.add y k = some s ∧ num r ∧ num s ∧ V r ≤ V s := by
  rcases num_cases hx with fx | ix <;> rcases num_cases hy with fy | iy
  · obtain ⟨r, a1, a2, a3⟩ := add_fin fx hk
    obtain ⟨s, b1, b2, b3⟩ := add_fin fy hk
    exact ⟨r, s, a1, b1, a2, b2, by rw [a3, b3]; exact frnd_mono (by omega)⟩
  · obtain ⟨r, a1, a2, a3⟩ := add_fin fx hk
    obtain ⟨s, b1, b2, b3⟩ := add_inf iy hk
    refine ⟨r, s, a1, b1, a2, b2, ?_⟩
    have := fin_lt fx
    rw [V_inf iy] at h b3
    rw [b3, a3]
    cases hs : sgn y <;> rw [hs] at h <;> simp at h ⊢
    · unfold frnd; split <;> omega
    · omega
  · obtain ⟨r, a1, a2, a3⟩ := add_inf ix hk
    obtain ⟨s, b1, b2, b3⟩ := add_fin fy hk
    refine ⟨r, s, a1, b1, a2, b2, ?_⟩
    have := fin_lt fy
    rw [V_inf ix] at h a3
    rw [b3, a3]
    cases hs : sgn x <;> rw [hs] at h <;> simp at h ⊢
    · omega
    · unfold frnd; split <;> omega
  · obtain ⟨r, a1, a2, a3⟩ := add_inf ix hk
    obtain ⟨s, b1, b2, b3⟩ := add_inf iy hk
    exact ⟨r, s, a1, b1, a2, b2, by rw [a3, b3]; exact h⟩

theorem add_nan {x y : Nat} (hx : ¬ num x) : double.add x y = none := by
  obtain ⟨t, h⟩ := read_nan hx
  unfold Format.add; rw [h]; simp [Datum.sum]

/-! ### halves -/
theorem two_read : double.read 4611686018427387904 = .number false (2 ^ 52) (-51) := by decide

theorem half_fin {x : Nat} (hx : fin x) : ∃ r, double.div x 4611686018427387904 = some r ∧ fin r ∧ 2 * V r ≤ V x + 1 ∧ V x ≤ 2 * V r + 1 := by
  obtain ⟨m, k, rx, ex, hm, hk⟩ := read_fin hx
  have mono : ∀ r, rval r ≤ rval (rung x) → r < double.infRung := fun r h => lt_of_rval (Nat.lt_of_le_of_lt h (rval_lt hx))
  unfold Format.div
  rw [rx, two_read, fb_eq]
  simp only [Datum.quotient]
  have hl : m.log2 ≤ 52 := by
    by_cases h0 : m = 0
    · subst h0; simp
    · have := (Nat.log2_lt h0).2 hm; omega
  have h52 : (2 ^ 52 : Nat).log2 = 52 := by decide
  have hne : ¬ ((2 : Nat) ^ 52 = 0) := by decide
  rw [if_neg hne, Option.map_some, h52]
  simp only [Format.write]
  obtain ⟨j, hj⟩ : ∃ j, 52 + 2 + 52 - m.log2 = 52 + j := ⟨54 - m.log2, by omega⟩
  rw [hj, shl, Nat.pow_add, Nat.mul_comm (2 ^ 52) (2 ^ j), ← Nat.mul_assoc, Nat.mul_div_cancel _ (by decide), Nat.mul_mod_left]
  have eb : ((0 : Nat) != 0).toNat = 0 := rfl
  rw [eb, Nat.add_zero, Bool.xor_false]
  have e1 : 2 * (m * 2 ^ j) = m * 2 ^ (j + 1) := by rw [Nat.pow_succ, ← Nat.mul_assoc m, Nat.mul_comm 2]
  rw [e1]
  have e2 : double.leastPlace + (k : Int) - -51 - ((52 + j : Nat) : Int) - 1 = (double.leastPlace + (k : Int) - 1) - ((j + 1 : Nat) : Int) := by omega
  rw [e2, nearest_scale]
  -- the word nearest to m * 2 ^ (k - 1)
  by_cases c : k = 0
  · subst c
    have e3 : double.leastPlace + ((0 : Nat) : Int) - 1 = double.leastPlace - 1 := by omega
    rw [e3, nearest_half _ _ hm]
    rw [Nat.pow_zero, Nat.mul_one] at ex
    have hr : re m 1 ≤ m := by
      by_cases h0 : m = 0
      · subst h0; simp [re]
      · unfold re; split <;> omega
    have he := re_err m 1
    have hr2 : re m 1 < 2 ^ 53 := by omega
    have hv : rval (re m 1) = re m 1 := by
      unfold rval
      split
      · rfl
      · have e1 : re m 1 / 2 ^ 52 = 1 := by omega
        rw [e1]; omega
    have hf : re m 1 < double.infRung := mono _ (by rw [hv, ← ex]; exact hr)
    have hs : re m 1 < double.signWeight := Nat.lt_trans hf double.infRung_lt
    refine ⟨_, rfl, ?_, ?_⟩
    · unfold fin; rw [rung_word _ _ hs]; exact hf
    · rw [V_word _ _ hs, hv]
      unfold V
      rw [← ex]
      cases sgn x <;> simp <;> omega
  · obtain ⟨l, rfl⟩ : ∃ l, k = l + 1 := ⟨k - 1, by omega⟩
    rw [nearest_up _ m l _ (by omega)]
    have ex' : 2 * (m * 2 ^ l) = rval (rung x) := by rw [← ex, Nat.pow_succ, ← Nat.mul_assoc m, Nat.mul_comm 2]
    have hv : rval (rg (m * 2 ^ l)) = m * 2 ^ l := by rw [rval_rg, rnd_exact _ _ hm]
    have hf : rg (m * 2 ^ l) < double.infRung := mono _ (by omega)
    have hs : rg (m * 2 ^ l) < double.signWeight := Nat.lt_trans hf double.infRung_lt
    rw [Nat.min_eq_left (Nat.le_of_lt hf)]
    refine ⟨_, rfl, ?_, ?_⟩
    · unfold fin; rw [rung_word _ _ hs]; exact hf
    · rw [V_word _ _ hs, hv]
      unfold V
      rw [← ex']
      cases sgn x <;> simp <;> omega


/-! ### the sign turned -/
theorem flip_low (a : Nat) (h : a < 2 ^ 64) : (a ^^^ 2 ^ 63) % 2 ^ 63 = a % 2 ^ 63 ∧ (a ^^^ 2 ^ 63) / 2 ^ 63 % 2 = 1 - a / 2 ^ 63 := by
  have h1 : (a ^^^ 2 ^ 63) % 2 ^ 63 = a % 2 ^ 63 := by
    rw [Nat.xor_mod_two_pow]; simp
  have h2 : (a ^^^ 2 ^ 63) / 2 ^ 63 = (a / 2 ^ 63) ^^^ 1 := by
    rw [Nat.xor_div_two_pow]
  refine ⟨h1, ?_⟩
  rw [h2]
  have : a / 2 ^ 63 = 0 ∨ a / 2 ^ 63 = 1 := by omega
  rcases this with e | e <;> rw [e] <;> decide

theorem neg_num {a : Nat} (h : a < 2 ^ 64) (hn : num a) : num (a ^^^ 2 ^ 63) ∧ V (a ^^^ 2 ^ 63) = - V a := by
  obtain ⟨e1, e2⟩ := flip_low a h
  have hr : rung (a ^^^ 2 ^ 63) = rung a := by unfold rung; rw [sw_eq]; exact e1
  have hs : sgn (a ^^^ 2 ^ 63) = ! sgn a := by
    unfold sgn; rw [sw_eq, e2]
    have : a / 2 ^ 63 = 0 ∨ a / 2 ^ 63 = 1 := by omega
    rcases this with e | e <;> rw [e] <;> decide
  refine ⟨by unfold num; rw [hr]; exact hn, ?_⟩
  unfold V
  rw [hr, hs]
  cases sgn a <;> simp

/-! ### products whose exact value is a whole number of units -/
theorem mul_fin {x y : Nat} (hx : fin x) (hy : fin y) (z : Int) (hz : V x * V y = z * (2 ^ 1074 : Nat)) : ∃ r, double.mul x y = some r ∧ num r ∧ V r = frnd z := by
  obtain ⟨m, k, rx, ex, _, _⟩ := read_fin hx
  obtain ⟨n, l, ry, ey, _, _⟩ := read_fin hy
  have hp : 0 < 2 ^ 1074 := Nat.two_pow_pos 1074
  have hv : z.natAbs * 2 ^ 1074 = m * n * 2 ^ (k + l) := by
    have a := congrArg Int.natAbs hz
    rw [Int.natAbs_mul, Int.natAbs_mul, Int.natAbs_natCast] at a
    have ax : (V x).natAbs = m * 2 ^ k := by rw [V_read ex, signed_eq]; split <;> omega
    have ay : (V y).natAbs = n * 2 ^ l := by rw [V_read ey, signed_eq]; split <;> omega
    rw [ax, ay] at a
    rw [← a, Nat.pow_add]
    generalize 2 ^ k = A; generalize 2 ^ l = B
    simp only [Nat.mul_assoc, Nat.mul_left_comm n A]
  unfold Format.mul
  rw [rx, ry]
  simp only [Datum.product, Option.map_some, Format.write]
  have key : double.nearest (sgn x ^^ sgn y) (m * n) (double.leastPlace + (k : Int) + (double.leastPlace + (l : Int))) = double.word (sgn x ^^ sgn y) (min (rg z.natAbs) double.infRung) := by
    rw [← nearest_scale _ (m * n) _ (k + l), ← hv]
    refine nearest_down _ _ 1074 _ ?_
    rw [lp_eq]; omega
  rw [key]
  refine ⟨_, rfl, num_word _ _, V_nearest _ _ _ rfl ?_⟩
  intro h0
  have hpi : (0 : Int) < ((2 ^ 1074 : Nat) : Int) := by
    generalize 2 ^ 1074 = q at hp; omega
  have hne : V x * V y ≠ 0 := by
    rw [hz]; intro e
    rcases Int.mul_eq_zero.1 e with e | e
    · exact h0 e
    · omega
  have hneg : z < 0 ↔ V x * V y < 0 := by
    rw [hz]
    constructor
    · intro h; exact Int.mul_neg_of_neg_of_pos h hpi
    · intro h
      by_cases c : z < 0
      · exact c
      · have := Int.mul_nonneg (show 0 ≤ z by omega) (Int.le_of_lt hpi); omega
  rw [hneg]
  have nx : V x ≠ 0 := fun e => hne (by rw [e, Int.zero_mul])
  have ny : V y ≠ 0 := fun e => hne (by rw [e, Int.mul_zero])
  have sx : sgn x = true ↔ V x < 0 := by
    unfold V at nx ⊢
    cases sgn x <;> simp at nx ⊢ <;> omega
  have sy : sgn y = true ↔ V y < 0 := by
    unfold V at ny ⊢
    cases sgn y <;> simp at ny ⊢ <;> omega
  by_cases cx : V x < 0 <;> by_cases cy : V y < 0
  · rw [sx.2 cx, sy.2 cy]
    have := Int.mul_pos_of_neg_of_neg cx cy
    simp; omega
  · have fy : sgn y = false := by cases h : sgn y; rfl; exact absurd (sy.1 h) cy
    rw [sx.2 cx, fy]
    have := Int.mul_neg_of_neg_of_pos cx (show 0 < V y by omega)
    simp; omega
  · have fx : sgn x = false := by cases h : sgn x; rfl; exact absurd (sx.1 h) cx
    rw [fx, sy.2 cy]
    have := Int.mul_neg_of_pos_of_neg (show 0 < V x by omega) cy
    simp; omega
  · have fx : sgn x = false := by cases h : sgn x; rfl; exact absurd (sx.1 h) cx
    have fy : sgn y = false := by cases h : sgn y; rfl; exact absurd (sy.1 h) cy
    rw [fx, fy]
    have := Int.mul_pos (show 0 < V x by omega) (show 0 < V y by omega)
    simp; omega

/-! ### a whole number made a word -/
theorem ofInt_num (n : Int) : num (double.write (.number (n < 0) n.natAbs 0)) ∧ V (double.write (.number (n < 0) n.natAbs 0)) = frnd (n * (2 ^ 1074 : Nat)) := by
  have hp : 0 < 2 ^ 1074 := Nat.two_pow_pos 1074
  have hpi : (0 : Int) < ((2 ^ 1074 : Nat) : Int) := by
    generalize 2 ^ 1074 = q at hp; omega
  have e : double.write (.number (n < 0) n.natAbs 0) = double.word (n < 0) (min (rg (n.natAbs * 2 ^ 1074)) double.infRung) := by
    show double.nearest _ _ _ = _
    refine nearest_up _ _ 1074 _ ?_
    rw [lp_eq]; rfl
  rw [e]
  refine ⟨num_word _ _, V_nearest _ _ _ (by rw [Int.natAbs_mul, Int.natAbs_natCast]) ?_⟩
  intro _
  rw [decide_eq_true_eq]
  constructor
  · intro h; exact Int.mul_neg_of_neg_of_pos h hpi
  · intro h
    by_cases c : n < 0
    · exact c
    · have := Int.mul_nonneg (show 0 ≤ n by omega) (Int.le_of_lt hpi); omega

end Go.Proofs.Qxb6613434a.Fl
