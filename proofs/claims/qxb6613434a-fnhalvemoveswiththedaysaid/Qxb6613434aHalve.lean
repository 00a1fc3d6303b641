import Derived.Test.Qxb6613434aSeason
namespace Go.Proofs.Qxb6613434a.Fl
open Ieee
set_option exponentiation.threshold 3000

abbrev tol : Nat := 4532020583610935537
abbrev tol25 : Nat := 4537999922764202797
abbrev two : Nat := 4611686018427387904
/-- the reach of the instants, in units: 2^21 -/
def R : Int := (2 ^ 1095 : Nat)
def Q : Int := (2 ^ 1005 : Nat)
theorem Q_pos : 0 < Q := by unfold Q; have := Nat.two_pow_pos 1005; omega
theorem R_Q : R = (2 ^ 90 : Nat) * Q := by
  unfold R Q; rw [← Int.natCast_mul, ← Nat.pow_add]
theorem V_tol : V tol = 5902958103587057 * Q := by unfold Q; decide +kernel
theorem V_tol25 : V tol25 = 7378697629483821 * (2 * Q) := by unfold Q; decide +kernel
theorem num_tol : num tol := by unfold num; decide +kernel
theorem num_tol25 : num tol25 := by unfold num; decide +kernel

/-- 'm < t' -/
def lt (m t : Nat) : Bool := double.order m t == some .lt
theorem lt_num {m t : Nat} (hm : num m) (ht : num t) : lt m t = decide (V m < V t) := by
  unfold lt
  rw [order_num hm ht]
  by_cases h : V m < V t
  · rw [Int.compare_eq_lt.2 h]; simp [h]
  · have : compare (V m) (V t) ≠ .lt := fun e => h (Int.compare_eq_lt.1 e)
    simp [h, this]
theorem lt_nan {m t : Nat} (ht : ¬ num t) : lt m t = false := by
  unfold lt; rw [order_nan_right ht]; rfl

/-- '(lo + hi) / 2' -/
def mid (lo hi : Nat) : Nat := ((double.add lo hi).bind (fun s => double.div s two)).getD 0
/-- 'hi - lo >= tol' -/
def wide (lo hi : Nat) : Bool := match double.sub hi lo with
  | some d => double.order d tol == some .gt || double.order d tol == some .eq
  | none => false

def hv (t : Nat) : Nat → Nat → Nat → Nat
  | 0, lo, hi => mid lo hi
  | f + 1, lo, hi => if wide lo hi then (if lt (mid lo hi) t then hv t f (mid lo hi) hi else hv t f lo (mid lo hi)) else mid lo hi

structure Inv (lo hi : Nat) : Prop where
  flo : fin lo
  fhi : fin hi
  le : V lo ≤ V hi
  lo : -R ≤ V lo
  hi : V hi ≤ R

theorem V_form {x : Nat} : ∃ (m : Int) (e : Nat), m.natAbs < 2 ^ 53 ∧ V x = m * (2 ^ e : Nat) := by
  obtain ⟨m, e, hm, he⟩ := rval_form (rung x)
  unfold V
  rw [he, Int.natCast_mul]
  by_cases h : sgn x = true
  · rw [if_pos h]; exact ⟨-m, e, by omega, by rw [Int.neg_mul]⟩
  · rw [if_neg h]; exact ⟨m, e, by omega, rfl⟩

theorem frnd_twice {x : Nat} (h1 : -R ≤ V x) (h2 : V x ≤ R) : frnd (2 * V x) = 2 * V x := by
  obtain ⟨m, e, hm, hv⟩ := V_form (x := x)
  have e1 : 2 * V x = m * (2 ^ (e + 1) : Nat) := by
    rw [hv, Nat.pow_succ, Int.natCast_mul, ← Int.mul_assoc m, Int.mul_comm 2]; rfl
  have hb : (2 * V x).natAbs ≤ 2 ^ 1096 := by
    unfold R at h1 h2
    rw [show 1096 = 1095 + 1 from rfl, Nat.pow_succ]
    generalize 2 ^ 1095 = r at *
    omega
  rw [e1] at hb ⊢
  refine frnd_exact m (e + 1) hm ?_
  rw [Int.natAbs_mul, Int.natAbs_natCast] at hb
  exact Nat.le_trans hb (pow_le_HUGE (by decide))

/-- a rounded number of units within twice the reach -/
theorem frnd_in {z : Int} (h1 : -(2 * R) ≤ z) (h2 : z ≤ 2 * R) : -(2 * R) ≤ frnd z ∧ frnd z ≤ 2 * R := by
  have e : frnd (2 * R) = 2 * R := by
    have := frnd_exact 1 1096 (by decide) (by simpa using pow_le_HUGE (show 1096 ≤ 2098 by decide))
    rw [Int.one_mul] at this
    have e2 : ((2 ^ 1096 : Nat) : Int) = 2 * R := by
      unfold R; rw [show 1096 = 1095 + 1 from rfl, Nat.pow_succ, Int.natCast_mul, Int.mul_comm]; rfl
    rw [e2] at this; exact this
  have a := frnd_mono h1
  have b := frnd_mono h2
  rw [frnd_neg, e] at a
  rw [e] at b
  exact ⟨a, b⟩

theorem fin_in {w : Nat} (hn : num w) (h1 : -(2 * R) ≤ V w) (h2 : V w ≤ 2 * R) : fin w := by
  have : (2 : Nat) ^ 1097 ≤ HUGE := pow_le_HUGE (by decide)
  rw [show 1097 = 1095 + 2 from rfl, Nat.pow_add] at this
  have hp := Nat.two_pow_pos 1095
  unfold R at h1 h2
  generalize 2 ^ 1095 = r at *
  exact fin_of_lt hn (by omega) (by omega)

theorem frnd_errR {z : Int} (h1 : -(2 * R) ≤ z) (h2 : z ≤ 2 * R) : frnd z ≤ z + (2 ^ 40 : Nat) * Q ∧ z ≤ frnd z + (2 ^ 40 : Nat) * Q := by
  have a := frnd_err z 1044 (by
    unfold R at h1 h2
    rw [show 53 + 1044 = 1095 + 2 from rfl, Nat.pow_add]
    have := Nat.two_pow_pos 1095
    generalize 2 ^ 1095 = r at *
    omega) (pow_le_HUGE (by decide))
  have e : ((2 ^ 1044 : Nat) : Int) = (2 ^ 39 : Nat) * Q := by
    unfold Q; rw [← Int.natCast_mul, ← Nat.pow_add]
  rw [e] at a
  have := Q_pos
  generalize Q = q at *
  omega

theorem add_in {x y : Nat} (hx : fin x) (hy : fin y) (x1 : -R ≤ V x) (x2 : V x ≤ R) (y1 : -R ≤ V y) (y2 : V y ≤ R) : ∃ s, double.add x y = some s ∧ fin s ∧ V s = frnd (V x + V y) := by
  obtain ⟨s, h1, h2, h3⟩ := add_fin hx hy
  have := frnd_in (z := V x + V y) (by omega) (by omega)
  exact ⟨s, h1, fin_in h2 (by omega) (by omega), h3⟩

theorem sub_in {x y : Nat} (hx : fin x) (hy : fin y) (x1 : -R ≤ V x) (x2 : V x ≤ R) (y1 : -R ≤ V y) (y2 : V y ≤ R) : ∃ s, double.sub x y = some s ∧ fin s ∧ V s = frnd (V x - V y) := by
  obtain ⟨s, h1, h2, h3⟩ := sub_fin hx hy
  have := frnd_in (z := V x - V y) (by omega) (by omega)
  exact ⟨s, h1, fin_in h2 (by omega) (by omega), h3⟩

/-- the middle of an interval -/
theorem mid_in {lo hi : Nat} (h : Inv lo hi) : ∃ s, double.add lo hi = some s ∧ double.div s two = some (mid lo hi) ∧ fin (mid lo hi) ∧ V lo ≤ V (mid lo hi) ∧ V (mid lo hi) ≤ V hi ∧ 2 * V (mid lo hi) ≤ frnd (V lo + V hi) + 1 ∧ frnd (V lo + V hi) ≤ 2 * V (mid lo hi) + 1 := by
  obtain ⟨flo, fhi, le, l, u⟩ := h
  obtain ⟨s, h1, h2, h3⟩ := add_in flo fhi l (by omega) (by omega) u
  obtain ⟨m, d1, d2, d3, d4⟩ := half_fin h2
  have hm : mid lo hi = m := by
    show ((double.add lo hi).bind _).getD 0 = m
    rw [h1, Option.bind_some, d1]; rfl
  rw [hm]
  have a := frnd_mono (show 2 * V lo ≤ V lo + V hi by omega)
  have b := frnd_mono (show V lo + V hi ≤ 2 * V hi by omega)
  rw [frnd_twice l (by omega)] at a
  rw [frnd_twice (by omega) u] at b
  exact ⟨s, h1, d1, d2, by omega, by omega, by omega, by omega⟩

theorem sub_of {lo hi : Nat} (h : Inv lo hi) : ∃ d, double.sub hi lo = some d ∧ fin d ∧ V d = frnd (V hi - V lo) :=
  sub_in h.fhi h.flo (by have := h.lo; have := h.le; omega) h.hi h.lo (by have := h.hi; have := h.le; omega)

theorem geq_num {d t : Nat} (hd : num d) (ht : num t) : (double.order d t == some .gt || double.order d t == some .eq) = decide (V t ≤ V d) := by
  rw [order_num hd ht]
  by_cases h : V d < V t
  · rw [Int.compare_eq_lt.2 h, decide_eq_false (by omega)]; rfl
  · rw [decide_eq_true (show V t ≤ V d by omega)]
    by_cases e : V d = V t
    · rw [e]; simp
    · rw [Int.compare_eq_gt.2 (show V t < V d by omega)]; rfl

theorem leq_num {d t : Nat} (hd : num d) (ht : num t) : (double.order d t == some .lt || double.order d t == some .eq) = decide (V d ≤ V t) := by
  rw [order_num hd ht]
  by_cases h : V t < V d
  · rw [Int.compare_eq_gt.2 h, decide_eq_false (by omega)]; rfl
  · rw [decide_eq_true (show V d ≤ V t by omega)]
    by_cases e : V d = V t
    · rw [e]; simp
    · rw [Int.compare_eq_lt.2 (show V d < V t by omega)]; rfl

theorem gtr_num {d t : Nat} (hd : num d) (ht : num t) : (double.order d t == some .gt) = decide (V t < V d) := by
  rw [order_num hd ht]
  by_cases h : V t < V d
  · rw [Int.compare_eq_gt.2 h, decide_eq_true h]; rfl
  · have : compare (V d) (V t) ≠ .gt := fun e => h (Int.compare_eq_gt.1 e)
    simp [h, this]

theorem wide_iff {lo hi : Nat} (h : Inv lo hi) : wide lo hi = decide (V tol ≤ frnd (V hi - V lo)) := by
  obtain ⟨d, d1, d2, d3⟩ := sub_of h
  unfold wide
  rw [d1, ← d3]
  exact geq_num (num_of_fin d2) num_tol

/-- a wide interval's middle lies strictly inside -/
theorem mid_strict {lo hi : Nat} (h : Inv lo hi) (hw : wide lo hi = true) : V lo < V (mid lo hi) ∧ V (mid lo hi) < V hi := by
  obtain ⟨s, _, _, _, m1, m2, m3, m4⟩ := mid_in h
  rw [wide_iff h, decide_eq_true_eq] at hw
  obtain ⟨flo, fhi, le, l, u⟩ := h
  have big : (2 ^ 52 : Nat) * Q < V hi - V lo := by
    by_cases c : V hi - V lo ≤ (2 ^ 52 : Nat) * Q
    · have a := frnd_mono c
      have e : frnd ((2 ^ 52 : Nat) * Q) = (2 ^ 52 : Nat) * Q := by
        unfold Q
        refine frnd_exact _ 1005 (by decide) ?_
        rw [Int.natAbs_natCast, ← Nat.pow_add]
        exact pow_le_HUGE (by decide)
      rw [e] at a
      rw [V_tol] at hw
      have := Q_pos
      generalize Q = q at *
      omega
    · omega
  have er := frnd_errR (z := V lo + V hi) (by omega) (by omega)
  have := Q_pos
  generalize Q = q at *
  omega

theorem Inv.left {lo hi : Nat} (h : Inv lo hi) : Inv lo (mid lo hi) := by
  obtain ⟨s, _, _, f, m1, m2, _, _⟩ := mid_in h
  obtain ⟨flo, fhi, le, l, u⟩ := h
  exact ⟨flo, f, m1, l, by omega⟩
theorem Inv.right {lo hi : Nat} (h : Inv lo hi) : Inv (mid lo hi) hi := by
  obtain ⟨s, _, _, f, m1, m2, _, _⟩ := mid_in h
  obtain ⟨flo, fhi, le, l, u⟩ := h
  exact ⟨f, fhi, m2, by omega, u⟩

def width (lo hi : Nat) : Nat := (V hi - V lo).toNat
theorem width_left {lo hi : Nat} (h : Inv lo hi) (hw : wide lo hi = true) : width lo (mid lo hi) < width lo hi := by
  have := mid_strict h hw; unfold width; omega
theorem width_right {lo hi : Nat} (h : Inv lo hi) (hw : wide lo hi = true) : width (mid lo hi) hi < width lo hi := by
  have := mid_strict h hw; unfold width; omega

theorem hv_fuel (t : Nat) : ∀ (f g lo hi : Nat), Inv lo hi → width lo hi < f → width lo hi < g → hv t f lo hi = hv t g lo hi := by
  intro f
  induction f with
  | zero => intro g lo hi _ h; omega
  | succ f ih =>
    intro g lo hi h hf hg
    obtain ⟨g, rfl⟩ : ∃ g', g = g' + 1 := ⟨g - 1, by omega⟩
    unfold hv
    by_cases hw : wide lo hi = true
    · have wl := width_left h hw
      have wr := width_right h hw
      rw [if_pos hw, if_pos hw, ih g _ _ h.right (by omega) (by omega), ih g _ _ h.left (by omega) (by omega)]
    · rw [if_neg hw, if_neg hw]

/-- what 'halve' gives -/
def halved (t lo hi : Nat) : Nat := hv t (width lo hi + 1) lo hi

theorem halved_wide {t lo hi : Nat} (h : Inv lo hi) (hw : wide lo hi = true) : halved t lo hi = if lt (mid lo hi) t then halved t (mid lo hi) hi else halved t lo (mid lo hi) := by
  have wl := width_left h hw
  have wr := width_right h hw
  unfold halved
  rw [hv, if_pos hw, hv_fuel t (width lo hi) (width (mid lo hi) hi + 1) _ _ h.right (by omega) (by omega), hv_fuel t (width lo hi) (width lo (mid lo hi) + 1) _ _ h.left (by omega) (by omega)]

theorem halved_narrow {t lo hi : Nat} (hw : wide lo hi = false) : halved t lo hi = mid lo hi := by
  unfold halved; rw [hv, if_neg (by rw [hw]; exact Bool.false_ne_true)]

/-- where the halving of '[s, e]' ends -/
structure Ends (t s e r lo hi : Nat) : Prop where
  inv : Inv lo hi
  fr : fin r
  a : V s ≤ V lo
  b : V lo ≤ V r
  c : V r ≤ V hi
  d : V hi ≤ V e
  small : frnd (V hi - V lo) < V tol
  below : V lo = V s ∨ lt lo t = true
  above : V hi = V e ∨ lt hi t = false

theorem halved_ends (t : Nat) : ∀ (n s e : Nat), Inv s e → width s e ≤ n → ∃ lo hi, Ends t s e (halved t s e) lo hi := by
  intro n
  induction n with
  | zero =>
    intro s e h hn
    have hw : wide s e = false := by
      cases hw : wide s e
      · rfl
      · have := width_left h hw; omega
    rw [halved_narrow hw]
    obtain ⟨_, _, _, f, m1, m2, _, _⟩ := mid_in h
    rw [wide_iff h, decide_eq_false_iff_not] at hw
    exact ⟨s, e, h, f, by omega, m1, m2, by omega, by omega, Or.inl rfl, Or.inl rfl⟩
  | succ n ih =>
    intro s e h hn
    cases hw : wide s e
    · rw [halved_narrow hw]
      obtain ⟨_, _, _, f, m1, m2, _, _⟩ := mid_in h
      rw [wide_iff h, decide_eq_false_iff_not] at hw
      exact ⟨s, e, h, f, by omega, m1, m2, by omega, by omega, Or.inl rfl, Or.inl rfl⟩
    · have wl := width_left h hw
      have wr := width_right h hw
      have ms := mid_strict h hw
      rw [halved_wide h hw]
      cases hl : lt (mid s e) t
      · rw [if_neg (by decide)]
        obtain ⟨lo, hi, E⟩ := ih s (mid s e) h.left (by omega)
        obtain ⟨i, f, a, b, c, d, sm, bl, ab⟩ := E
        refine ⟨lo, hi, i, f, a, b, c, by omega, sm, bl, ?_⟩
        rcases ab with ab | ab
        · right
          by_cases nt : num t
          · rw [lt_num (num_of_fin i.fhi) nt]
            rw [lt_num (num_of_fin h.left.fhi) nt] at hl
            rw [ab]; exact hl
          · exact lt_nan nt
        · exact Or.inr ab
      · rw [if_pos rfl]
        obtain ⟨lo, hi, E⟩ := ih (mid s e) e h.right (by omega)
        obtain ⟨i, f, a, b, c, d, sm, bl, ab⟩ := E
        refine ⟨lo, hi, i, f, by omega, b, c, d, sm, ?_, ab⟩
        rcases bl with bl | bl
        · right
          by_cases nt : num t
          · rw [lt_num (num_of_fin i.flo) nt]
            rw [lt_num (num_of_fin h.right.flo) nt] at hl
            rw [bl]; exact hl
          · rw [lt_nan nt] at hl; cases hl
        · exact Or.inr bl

/-- a later turn gives no earlier instant -/
theorem halved_mono (t u : Nat) (ht : num t) (hu : num u) (htu : V t ≤ V u) : ∀ (n s e : Nat), Inv s e → width s e ≤ n → V (halved t s e) ≤ V (halved u s e) := by
  intro n
  induction n with
  | zero =>
    intro s e h hn
    have hw : wide s e = false := by
      cases hw : wide s e
      · rfl
      · have := width_left h hw; omega
    rw [halved_narrow hw, halved_narrow hw]; omega
  | succ n ih =>
    intro s e h hn
    cases hw : wide s e
    · rw [halved_narrow hw, halved_narrow hw]; omega
    · have wl := width_left h hw
      have wr := width_right h hw
      have nm := num_of_fin h.left.fhi
      rw [halved_wide h hw, halved_wide h hw, lt_num nm ht, lt_num nm hu]
      by_cases c1 : V (mid s e) < V t
      · rw [decide_eq_true c1, decide_eq_true (show V (mid s e) < V u by omega), if_pos rfl, if_pos rfl]
        exact ih _ _ h.right (by omega)
      · rw [decide_eq_false c1, if_neg (by decide)]
        by_cases c2 : V (mid s e) < V u
        · rw [decide_eq_true c2, if_pos rfl]
          obtain ⟨_, _, E1⟩ := halved_ends t _ _ _ h.left (Nat.le_refl _)
          obtain ⟨_, _, E2⟩ := halved_ends u _ _ _ h.right (Nat.le_refl _)
          have := E1.c; have := E1.d; have := E2.a; have := E2.b
          omega
        · rw [decide_eq_false c2, if_neg (by decide)]
          exact ih _ _ h.left (by omega)


/-! ### the turn, and what lies near -/
def turn (t s e : Nat) : Nat := if (double.order t s == some .gt) = false then s else if (double.order t e == some .gt) = true then e else t

structure Near (a c tl : Nat) : Prop where
  out : ∃ d, double.sub a c = some d ∧ lt d tl = true ∧ lt (d ^^^ 2 ^ 63) tl = true

theorem near_of {a c tl : Nat} (ha : fin a) (hc : fin c) (htl : num tl) (h1 : frnd (V a - V c) < V tl) (h2 : frnd (V c - V a) < V tl) : Near a c tl := by
  obtain ⟨d, d1, d2, d3⟩ := sub_fin ha hc
  have hd : d < 2 ^ 64 := double.sub_lt d1
  obtain ⟨n1, n2⟩ := neg_num hd d2
  refine ⟨d, d1, ?_, ?_⟩
  · rw [lt_num d2 htl, d3]; exact decide_eq_true h1
  · rw [lt_num n1 htl, n2, d3, ← frnd_neg]
    exact decide_eq_true (by rw [show -(V a - V c) = V c - V a by omega]; exact h2)

theorem gtr_nan {t s : Nat} (h : ¬ num t) : (double.order t s == some .gt) = false := by
  rw [order_nan_left h]; rfl

/-- the turn lies between the halving's last bounds -/
theorem turn_in {t s e r lo hi : Nat} (hi0 : Inv s e) (E : Ends t s e r lo hi) : fin (turn t s e) ∧ V lo ≤ V (turn t s e) ∧ V (turn t s e) ≤ V hi := by
  obtain ⟨i, f, a, b, c, d, sm, bl, ab⟩ := E
  have ns := num_of_fin hi0.flo
  have ne := num_of_fin hi0.fhi
  by_cases nt : num t
  · unfold turn
    rw [gtr_num nt ns, gtr_num nt ne]
    rw [lt_num (num_of_fin i.flo) nt, decide_eq_true_eq] at bl
    rw [lt_num (num_of_fin i.fhi) nt, decide_eq_false_iff_not] at ab
    have sub1 := hi0.le
    by_cases c1 : V s < V t
    · rw [if_neg (by rw [decide_eq_true c1]; decide)]
      by_cases c2 : V e < V t
      · rw [if_pos (decide_eq_true c2)]
        exact ⟨hi0.fhi, by omega, by omega⟩
      · rw [if_neg (by rw [decide_eq_false c2]; decide)]
        have l1 := fin_lt hi0.flo
        have l2 := fin_lt hi0.fhi
        exact ⟨fin_of_lt nt (by omega) (by omega), by omega, by omega⟩
    · rw [if_pos (decide_eq_false c1)]
      exact ⟨hi0.flo, by omega, by omega⟩
  · unfold turn
    rw [if_pos (gtr_nan nt)]
    rw [lt_nan nt] at bl
    refine ⟨hi0.flo, ?_, by omega⟩
    rcases bl with bl | bl
    · omega
    · cases bl

theorem halved_near {t s e : Nat} (h : Inv s e) : Near (halved t s e) (turn t s e) tol := by
  obtain ⟨lo, hi, E⟩ := halved_ends t _ _ _ h (Nat.le_refl _)
  obtain ⟨f, t1, t2⟩ := turn_in h E
  have m1 := frnd_mono (show V (halved t s e) - V (turn t s e) ≤ V hi - V lo by have := E.b; have := E.c; omega)
  have m2 := frnd_mono (show V (turn t s e) - V (halved t s e) ≤ V hi - V lo by have := E.b; have := E.c; omega)
  have := E.small
  exact near_of E.fr f num_tol (by omega) (by omega)

theorem halved_in {t s e : Nat} (h : Inv s e) : fin (halved t s e) ∧ V s ≤ V (halved t s e) ∧ V (halved t s e) ≤ V e := by
  obtain ⟨lo, hi, E⟩ := halved_ends t _ _ _ h (Nat.le_refl _)
  have := E.a; have := E.b; have := E.c; have := E.d
  exact ⟨E.fr, by omega, by omega⟩

/-- closer than the tolerance, in units -/
theorem halved_close {t s e : Nat} (h : Inv s e) : fin (turn t s e) ∧ V s ≤ V (turn t s e) ∧ V (turn t s e) ≤ V e ∧ V (halved t s e) - V (turn t s e) < V tol ∧ V (turn t s e) - V (halved t s e) < V tol := by
  obtain ⟨lo, hi, E⟩ := halved_ends t _ _ _ h (Nat.le_refl _)
  obtain ⟨f, t1, t2⟩ := turn_in h E
  have w : V hi - V lo < V tol := by
    by_cases c : V tol ≤ V hi - V lo
    · have := frnd_mono c
      rw [frnd_V num_tol] at this
      have := E.small
      omega
    · omega
  have := E.a; have := E.b; have := E.c; have := E.d
  exact ⟨f, by omega, by omega, by omega, by omega⟩

/-! ### the interval moved -/
def S : Int := (2 ^ 1094 : Nat)
theorem S_R : 2 * S = R := by
  unfold S R; rw [show 1095 = 1094 + 1 from rfl, Nat.pow_succ, Int.natCast_mul, Int.mul_comm]; rfl
theorem S_pos : 0 < S := by unfold S; have := Nat.two_pow_pos 1094; omega

theorem frnd_R : frnd R = R := by
  have := frnd_exact 1 1095 (by decide) (by simpa using pow_le_HUGE (show 1095 ≤ 2098 by decide))
  rw [Int.one_mul] at this
  exact this

structure In (x : Nat) : Prop where
  f : fin x
  lo : -S ≤ V x
  hi : V x ≤ S

theorem moved {x k : Nat} (hx : In x) (hk : In k) : ∃ y, double.add x k = some y ∧ fin y ∧ V y = frnd (V x + V k) ∧ -R ≤ V y ∧ V y ≤ R := by
  obtain ⟨fx, x1, x2⟩ := hx
  obtain ⟨fk, k1, k2⟩ := hk
  have hS := S_R
  have hp := S_pos
  obtain ⟨y, h1, h2, h3⟩ := add_in fx fk (by omega) (by omega) (by omega) (by omega)
  have a := frnd_mono (show V x + V k ≤ R by omega)
  have b := frnd_mono (show -R ≤ V x + V k by omega)
  rw [frnd_neg] at b
  rw [frnd_R] at a b
  exact ⟨y, h1, h2, h3, by omega, by omega⟩

theorem frnd_close {z X : Int} (h : z ≤ X) (hX : frnd X = X) : frnd z ≤ X := by
  have := frnd_mono h; omega

theorem In.inv {s e : Nat} (hs : In s) (he : In e) (h : V s ≤ V e) : Inv s e := by
  have hS := S_R
  have hp := S_pos
  exact ⟨hs.f, he.f, h, by have := hs.lo; omega, by have := he.hi; omega⟩

/-- the moved interval's turn is the turn, moved -/
theorem turn_moved {s e t k s' e' t' : Nat} (hs : In s) (he : In e) (hk : In k) (hle : V s ≤ V e)
    (es : double.add s k = some s') (ee : double.add e k = some e') (et : double.add t k = some t' ∨ (¬ num t ∧ ¬ num t')) :
    V (turn t' s' e') = frnd (V (turn t s e) + V k) := by
  obtain ⟨s1, a1, a2, a3, _, _⟩ := moved hs hk
  obtain ⟨e1, b1, b2, b3, _, _⟩ := moved he hk
  obtain rfl : s1 = s' := by rw [a1] at es; exact Option.some.inj es
  obtain rfl : e1 = e' := by rw [b1] at ee; exact Option.some.inj ee
  have ns := num_of_fin hs.f
  have ne := num_of_fin he.f
  have ns' := num_of_fin a2
  have ne' := num_of_fin b2
  have hmon := frnd_mono (show V s + V k ≤ V e + V k by omega)
  by_cases nt : num t
  · have et : double.add t k = some t' := by
      rcases et with h | h
      · exact h
      · exact absurd nt h.1
    -- the three in their order
    have ord : ∀ x y x' y', num x → num y → double.add x k = some x' → double.add y k = some y' → V x ≤ V y → V x' ≤ V y' ∧ num x' ∧ num y' := by
      intro x y x' y' nx ny hx hy hxy
      obtain ⟨r, q, h1, h2, h3, h4, h5⟩ := add_le nx ny hk.f hxy
      rw [hx] at h1; rw [hy] at h2
      obtain rfl := Option.some.inj h1
      obtain rfl := Option.some.inj h2
      exact ⟨h5, h3, h4⟩
    have nt' : num t' := (ord t t t' t' nt nt et et (Int.le_refl _)).2.1
    unfold turn
    rw [gtr_num nt ns, gtr_num nt ne, gtr_num nt' ns', gtr_num nt' ne']
    by_cases c1 : V s < V t
    · rw [if_neg (show ¬ (decide (V s < V t) = false) by rw [decide_eq_true c1]; decide)]
      have o1 := (ord s t s1 t' ns nt a1 et (by omega)).1
      by_cases c2 : V e < V t
      · rw [if_pos (show decide (V e < V t) = true from decide_eq_true c2)]
        have o2 := (ord e t e1 t' ne nt b1 et (by omega)).1
        rw [← b3]
        by_cases d1 : V s1 < V t'
        · rw [if_neg (show ¬ (decide (V s1 < V t') = false) by rw [decide_eq_true d1]; decide)]
          by_cases d2 : V e1 < V t'
          · rw [if_pos (show decide (V e1 < V t') = true from decide_eq_true d2)]
          · rw [if_neg (show ¬ (decide (V e1 < V t') = true) by rw [decide_eq_false d2]; decide)]; omega
        · rw [if_pos (show decide (V s1 < V t') = false from decide_eq_false d1)]; omega
      · rw [if_neg (show ¬ (decide (V e < V t) = true) by rw [decide_eq_false c2]; decide)]
        have o2 := (ord t e t' e1 nt ne et b1 (by omega)).1
        have l1 := fin_lt hs.f
        have l2 := fin_lt he.f
        have ft : In t := ⟨fin_of_lt nt (by omega) (by omega), by have := hs.lo; omega, by have := he.hi; omega⟩
        obtain ⟨q, q1, q2, q3, _, _⟩ := moved ft hk
        obtain rfl : q = t' := by rw [q1] at et; exact Option.some.inj et
        rw [← q3]
        by_cases d1 : V s1 < V q
        · rw [if_neg (show ¬ (decide (V s1 < V q) = false) by rw [decide_eq_true d1]; decide)]
          rw [if_neg (show ¬ (decide (V e1 < V q) = true) by rw [decide_eq_false (by omega)]; decide)]
        · rw [if_pos (show decide (V s1 < V q) = false from decide_eq_false d1)]; omega
    · rw [if_pos (show decide (V s < V t) = false from decide_eq_false c1)]
      have o1 := (ord t s t' s1 nt ns et a1 (by omega)).1
      rw [if_pos (show decide (V s1 < V t') = false from decide_eq_false (by omega)), a3]
  · have nt' : ¬ num t' := by
      rcases et with h | h
      · rw [add_nan nt] at h; cases h
      · exact h.2
    unfold turn
    rw [if_pos (gtr_nan nt), if_pos (gtr_nan nt'), a3]

theorem V_below25 : ∃ X : Int, frnd X = X ∧ X < V tol25 ∧ 2 * V tol + (2 ^ 42 : Nat) * Q ≤ X := by
  refine ⟨V (tol25 - 1), frnd_V (by unfold num; decide +kernel), by decide +kernel, ?_⟩
  rw [V_tol]
  unfold Q
  decide +kernel

theorem moves {s e t k s' e' t' : Nat} (hs : In s) (he : In e) (hk : In k) (hle : V s ≤ V e)
    (es : double.add s k = some s') (ee : double.add e k = some e') (et : double.add t k = some t' ∨ (¬ num t ∧ ¬ num t')) :
    Inv s' e' ∧ ∃ ak, double.add (halved t s e) k = some ak ∧ Near (halved t' s' e') ak tol25 := by
  have hi0 := hs.inv he hle
  obtain ⟨s1, a1, a2, a3, a4, a5⟩ := moved hs hk
  obtain ⟨e1, b1, b2, b3, b4, b5⟩ := moved he hk
  obtain rfl : s1 = s' := by rw [a1] at es; exact Option.some.inj es
  obtain rfl : e1 = e' := by rw [b1] at ee; exact Option.some.inj ee
  have hmon := frnd_mono (show V s + V k ≤ V e + V k by omega)
  have hi1 : Inv s1 e1 := ⟨a2, b2, by omega, a4, b5⟩
  refine ⟨hi1, ?_⟩
  obtain ⟨f1, p1, p2⟩ := halved_in (t := t) hi0
  obtain ⟨f2, q1, q2⟩ := halved_in (t := t') hi1
  have ia : In (halved t s e) := ⟨f1, by have := hs.lo; omega, by have := he.hi; omega⟩
  obtain ⟨ak, k1, k2, k3, _, _⟩ := moved ia hk
  refine ⟨ak, k1, ?_⟩
  obtain ⟨ft, u1, u2, u3, u4⟩ := halved_close (t := t) hi0
  obtain ⟨ft', v1, v2, v3, v4⟩ := halved_close (t := t') hi1
  have tm := turn_moved hs he hk hle a1 b1 et
  have hS := S_R
  have hp := S_pos
  have hkl := hk.lo
  have hkh := hk.hi
  have hsl := hs.lo
  have heh := he.hi
  have er1 := frnd_errR (z := V (turn t s e) + V k) (by omega) (by omega)
  have er2 := frnd_errR (z := V (halved t s e) + V k) (by omega) (by omega)
  rw [← tm] at er1
  rw [← k3] at er2
  obtain ⟨X, x1, x2, x3⟩ := V_below25
  have hq := Q_pos
  refine near_of f2 k2 num_tol25 ?_ ?_
  · have := frnd_close (z := V (halved t' s1 e1) - V ak) (X := X) (by generalize Q = q at *; omega) x1
    omega
  · have := frnd_close (z := V ak - V (halved t' s1 e1)) (X := X) (by generalize Q = q at *; omega) x1
    omega

end Go.Proofs.Qxb6613434a.Fl
