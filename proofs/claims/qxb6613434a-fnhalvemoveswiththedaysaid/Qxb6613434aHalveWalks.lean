import Derived.Test.Qxb6613434aRows
import Derived.WalkKit
import Derived.ProofKit
import Derived.WalkLawsBesides
import Derived.Laws.FloatArith
import Derived.Test.Qxb6613434aHalve
namespace Go.Proofs.Qxb6613434a
open Go.RowKit
set_option linter.unusedVariables false

/-! ### zzHalveInReach -/
def geqB (x c : Nat) : Bool := FloatKind.f64.format.order x c == some .gt || FloatKind.f64.format.order x c == some .eq
def leqB (x c : Nat) : Bool := FloatKind.f64.format.order x c == some .lt || FloatKind.f64.format.order x c == some .eq
def reachB (x : Nat) : Bool := geqB x 13920626448202203136 && leqB x 4697254411347427328

theorem reach8 (x : Nat) (w : World) : Calls Try.prog 8 #[.float .f64 x] w fun e w' => e = .returned (.bool (reachB x)) ∧ w' = w := by
  have key : ∀ b1 b2 : Bool, geqB x 13920626448202203136 = b1 → leqB x 4697254411347427328 = b2 → Calls Try.prog 8 #[.float .f64 x] w fun e w' => e = .returned (.bool (b1 && b2)) ∧ w' = w := by
    intro b1 b2 h1 h2
    have g1 : ∀ t, binOp .geq t (.float .f64 x) (.float .f64 13920626448202203136) = pure (.bool b1) := fun t => by rw [binOp_float_cmp_geq]; exact congrArg (fun b => pure (Value.bool b)) h1
    have g2 : ∀ t, binOp .leq t (.float .f64 x) (.float .f64 4697254411347427328) = pure (.bool b2) := fun t => by rw [binOp_float_cmp_leq]; exact congrArg (fun b => pure (Value.bool b)) h2
    clear h1 h2
    cases b1 <;> cases b2
    all_goals
      go_enter Try.func8, Try.ntmps8
      go_wp2
      go_ret
      exact ⟨rfl, rfl⟩
  exact key _ _ rfl rfl


/-! ### zzTurn -/
theorem turn11 (t s e : Nat) (w : World) : Calls Try.prog 11 #[.float .f64 t, .float .f64 s, .float .f64 e] w fun x w' => x = .returned (.float .f64 (Fl.turn t s e)) ∧ w' = w := by
  have key : ∀ b1 b2 : Bool, (FloatKind.f64.format.order t s == some .gt) = b1 → (FloatKind.f64.format.order t e == some .gt) = b2 →
      Calls Try.prog 11 #[.float .f64 t, .float .f64 s, .float .f64 e] w fun x w' => x = .returned (.float .f64 (if b1 = false then s else if b2 = true then e else t)) ∧ w' = w := by
    intro b1 b2 h1 h2
    have g1 : ∀ y, binOp .gtr y (.float .f64 t) (.float .f64 s) = pure (.bool b1) := fun y => by rw [binOp_float_cmp_gtr]; exact congrArg (fun b => pure (Value.bool b)) h1
    have g2 : ∀ y, binOp .gtr y (.float .f64 t) (.float .f64 e) = pure (.bool b2) := fun y => by rw [binOp_float_cmp_gtr]; exact congrArg (fun b => pure (Value.bool b)) h2
    clear h1 h2
    cases b1 <;> cases b2
    all_goals
      go_enter Try.func11, Try.ntmps11
      go_wp2
      go_ret
      exact ⟨rfl, rfl⟩
  exact key _ _ rfl rfl

/-! ### zzNear -/
theorem near10 (a c tl : Nat) (w : World) (h : Fl.Near a c tl) : Calls Try.prog 10 #[.float .f64 a, .float .f64 c, .float .f64 tl] w fun x w' => x = .returned (.bool true) ∧ w' = w := by
  obtain ⟨d, h1, h2, h3⟩ := h.out
  have p1 : ∀ y w, (binOp .sub y (.float .f64 a) (.float .f64 c)).run Try.prog w = .ok (.float .f64 d) w := fun y w => run_float_arith w .sub y .f64 _ _ _ h1
  have g1 : ∀ y, binOp .lss y (.float .f64 d) (.float .f64 tl) = pure (.bool true) := fun y => by rw [binOp_float_cmp_lss]; exact congrArg (fun b => pure (Value.bool b)) h2
  have n1 : ∀ w, (Op.unary .neg (.float .f64 d)).run Try.prog w = .ok (.float .f64 (d ^^^ 2 ^ 63)) w := fun w => rfl
  have g2 : ∀ y, binOp .lss y (.float .f64 (d ^^^ 2 ^ 63)) (.float .f64 tl) = pure (.bool true) := fun y => by rw [binOp_float_cmp_lss]; exact congrArg (fun b => pure (Value.bool b)) h3
  clear h h1 h2 h3
  generalize d ^^^ 2 ^ 63 = nd at n1 g2
  go_enter Try.func10, Try.ntmps10
  go_wp2
  go_ret
  exact ⟨rfl, rfl⟩

/-! ### the closure -/
theorem before14 (m t b : Nat) (w : World) (hc : w.cell? ⟨b, 0, none⟩ = some (.float .f64 t)) : Calls Try.prog 14 #[.float .f64 m, .pointer (some ⟨b, 0, none⟩)] w fun x w' => x = .returned (.bool (Fl.lt m t)) ∧ w' = w := by
  have g1 : ∀ y, binOp .lss y (.float .f64 m) (.float .f64 t) = pure (.bool (Fl.lt m t)) := fun y => by rw [binOp_float_cmp_lss]; rfl
  go_enter Try.func14, Try.ntmps14
  go_wp2
  go_ret
  exact ⟨rfl, rfl⟩


/-! ### halve -/
def wd (a b : Value) : Nat := match a, b with
  | .float _ x, .float _ y => Fl.width x y
  | _, _ => 0

set_option maxHeartbeats 1000000 in
theorem halve13 (s e t b : Nat) (w : World) (hc : w.cell? ⟨b, 0, none⟩ = some (.float .f64 t)) (hi : Fl.Inv s e) :
    Calls Try.prog 13 #[.float .f64 s, .float .f64 e, .func (.func 14) #[] #[.pointer (some ⟨b, 0, none⟩)]] w fun x w' => x = .returned (.float .f64 (Fl.halved t s e)) ∧ w' = w := by
  go_enter Try.func13, Try.ntmps13
  go_wp2
  go_loop [0, 1] (fun x y => ∃ lo hi : Nat, x = .float .f64 lo ∧ y = .float .f64 hi ∧ Fl.Inv lo hi ∧ Hid (Fl.halved t lo hi = Fl.halved t s e)) (fun x y => wd x y)
  case atStart => exact ⟨s, e, rfl, rfl, hi, rfl⟩
  case round =>
    obtain ⟨lo, hi', rfl, rfl, inv, HH⟩ := hrel
    clear hi
    obtain ⟨d, d1, d2, d3⟩ := Fl.sub_of inv
    obtain ⟨sm, m1, m2, _⟩ := Fl.mid_in inv
    have p1 : ∀ y w, (binOp .sub y (.float .f64 hi') (.float .f64 lo)).run Try.prog w = .ok (.float .f64 d) w := fun y w => run_float_arith w .sub y .f64 _ _ _ d1
    have p2 : ∀ y w, (binOp .add y (.float .f64 lo) (.float .f64 hi')).run Try.prog w = .ok (.float .f64 sm) w := fun y w => run_float_arith w .add y .f64 _ _ _ m1
    have p3 : ∀ y w, (binOp .quo y (.float .f64 sm) (.float .f64 4611686018427387904)).run Try.prog w = .ok (.float .f64 (Fl.mid lo hi')) w := fun y w => run_float_arith w .quo y .f64 _ _ _ m2
    have hwd : (FloatKind.f64.format.order d 4532020583610935537 == some .gt || FloatKind.f64.format.order d 4532020583610935537 == some .eq) = Fl.wide lo hi' := by
      unfold Fl.wide; rw [d1]; rfl
    cases hw : Fl.wide lo hi'
    · have g1 : ∀ y, binOp .geq y (.float .f64 d) (.float .f64 4532020583610935537) = pure (.bool false) := fun y => by rw [binOp_float_cmp_geq]; exact congrArg (fun b => pure (Value.bool b)) (hwd.trans hw)
      have HN : Hid (Fl.halved t lo hi' = Fl.mid lo hi') := Fl.halved_narrow hw
      clear hwd hw d1 d2 d3 m1 m2
      go_wp2
      go_ret
      exact ⟨by rw [← HH.out, HN.out]; rfl, rfl⟩
    · have g1 : ∀ y, binOp .geq y (.float .f64 d) (.float .f64 4532020583610935537) = pure (.bool true) := fun y => by rw [binOp_float_cmp_geq]; exact congrArg (fun b => pure (Value.bool b)) (hwd.trans hw)
      have HW : Hid (Fl.wide lo hi' = true) := hw
      have HN : Hid (Fl.halved t lo hi' = if Fl.lt (Fl.mid lo hi') t then Fl.halved t (Fl.mid lo hi') hi' else Fl.halved t lo (Fl.mid lo hi')) := Fl.halved_wide inv hw
      clear hwd hw d1 d2 d3 m1 m2
      cases hl : Fl.lt (Fl.mid lo hi') t
      · have HL : Hid (Fl.lt (Fl.mid lo hi') t = false) := hl
        have hcl : ∀ w, w.cell? ⟨b, 0, none⟩ = some (.float .f64 t) → Calls Try.prog 14 #[.float .f64 (Fl.mid lo hi'), .pointer (some ⟨b, 0, none⟩)] w fun x w' => x = .returned (.bool false) ∧ w' = w := fun w h => hl ▸ before14 _ t b w h
        clear hl
        go_wp2_with (go_at_call 14; refine (hcl _ hc).mono ?_; rintro e w' ⟨rfl, rfl⟩)
        go_round
        case rel => exact ⟨_, _, rfl, rfl, inv.left, (show _ = _ by rw [← HH.out, HN.out, HL.out]; rfl)⟩
        case measure => exact Fl.width_left inv HW.out
      · have HL : Hid (Fl.lt (Fl.mid lo hi') t = true) := hl
        have hcl : ∀ w, w.cell? ⟨b, 0, none⟩ = some (.float .f64 t) → Calls Try.prog 14 #[.float .f64 (Fl.mid lo hi'), .pointer (some ⟨b, 0, none⟩)] w fun x w' => x = .returned (.bool true) ∧ w' = w := fun w h => hl ▸ before14 _ t b w h
        clear hl
        go_wp2_with (go_at_call 14; refine (hcl _ hc).mono ?_; rintro e w' ⟨rfl, rfl⟩)
        go_round
        case rel => exact ⟨_, _, rfl, rfl, inv.right, (show _ = _ by rw [← HH.out, HN.out, HL.out]; rfl)⟩
        case measure => exact Fl.width_right inv HW.out

/-! ### ZZhalveBefore -/
theorem export9 (s e t : Nat) (w : World) (hi : Fl.Inv s e) :
    Calls Try.prog 9 #[.float .f64 s, .float .f64 e, .float .f64 t] w fun x w' => x = .returned (.float .f64 (Fl.halved t s e)) ∧ Grown w w' := by
  have hmf : ∀ (fn : Fn) (first cap : Array Value) (w : World), (Instr.makeFunc fn first cap).run Try.prog w = .ok (.func fn first cap) w := fun _ _ _ _ => rfl
  go_enter Try.func9, Try.ntmps9
  go_wp2_with (go_at_call 13; refine (halve13 _ _ t w.heap.size _ (by simp) hi).mono ?_; rintro e w' ⟨rfl, rfl⟩)
  go_ret
  exact ⟨rfl, (Grown.refl _).alloc _ _⟩


theorem grown_trans {a b c : World} (h : Grown a b) (k : Grown b c) : Grown a c :=
  ⟨World.keptBut_trans h.1 k.1, fun x => (k.2.1 x).trans (h.2.1 x), Nat.le_trans h.2.2 k.2.2⟩

/-! ### comparisons, as the walks meet them -/
theorem leq_run {x y : Nat} {b : Bool} (h : leqB x y = b) (t : TypeId) : binOp .leq t (.float .f64 x) (.float .f64 y) = pure (.bool b) := by
  rw [binOp_float_cmp_leq]; exact congrArg (fun b => pure (Value.bool b)) h
theorem geq_run {x y : Nat} {b : Bool} (h : geqB x y = b) (t : TypeId) : binOp .geq t (.float .f64 x) (.float .f64 y) = pure (.bool b) := by
  rw [binOp_float_cmp_geq]; exact congrArg (fun b => pure (Value.bool b)) h
theorem leq_of {x y : Nat} (h : leqB x y = true) : Fl.num x ∧ Fl.num y ∧ Fl.V x ≤ Fl.V y := by
  have h' : (Ieee.double.order x y == some .lt || Ieee.double.order x y == some .eq) = true := h
  by_cases nx : Fl.num x
  · by_cases ny : Fl.num y
    · rw [Fl.leq_num nx ny, decide_eq_true_eq] at h'; exact ⟨nx, ny, h'⟩
    · rw [Fl.order_nan_right ny] at h'; cases h'
  · rw [Fl.order_nan_left nx] at h'; cases h'
theorem geq_of {x y : Nat} (h : geqB x y = true) : Fl.num x ∧ Fl.num y ∧ Fl.V y ≤ Fl.V x := by
  have h' : (Ieee.double.order x y == some .gt || Ieee.double.order x y == some .eq) = true := h
  by_cases nx : Fl.num x
  · by_cases ny : Fl.num y
    · rw [Fl.geq_num nx ny, decide_eq_true_eq] at h'; exact ⟨nx, ny, h'⟩
    · rw [Fl.order_nan_right ny] at h'; cases h'
  · rw [Fl.order_nan_left nx] at h'; cases h'
theorem leq_mk {x y : Nat} (nx : Fl.num x) (ny : Fl.num y) (h : Fl.V x ≤ Fl.V y) : leqB x y = true := by
  show (Ieee.double.order x y == some .lt || Ieee.double.order x y == some .eq) = true
  rw [Fl.leq_num nx ny]; exact decide_eq_true h
theorem geq_mk {x y : Nat} (nx : Fl.num x) (ny : Fl.num y) (h : Fl.V y ≤ Fl.V x) : geqB x y = true := by
  show (Ieee.double.order x y == some .gt || Ieee.double.order x y == some .eq) = true
  rw [Fl.geq_num nx ny]; exact decide_eq_true h
theorem V_m20 : Fl.V 13920626448202203136 = -Fl.S := by unfold Fl.S; decide +kernel
theorem V_p20 : Fl.V 4697254411347427328 = Fl.S := by unfold Fl.S; decide +kernel
theorem in_of_reach {x : Nat} (h : reachB x = true) : Fl.In x := by
  unfold reachB at h
  rw [Bool.and_eq_true] at h
  obtain ⟨n1, _, h1⟩ := geq_of h.1
  obtain ⟨_, _, h2⟩ := leq_of h.2
  rw [V_m20] at h1
  rw [V_p20] at h2
  have := Fl.S_R
  have := Fl.S_pos
  exact ⟨Fl.fin_in n1 (by omega) (by omega), h1, h2⟩
theorem gtr_run {x y : Nat} (nx : Fl.num x) (ny : Fl.num y) (h : Fl.V x ≤ Fl.V y) (t : TypeId) : binOp .gtr t (.float .f64 x) (.float .f64 y) = pure (.bool false) := by
  rw [binOp_float_cmp_gtr]
  refine congrArg (fun b => pure (Value.bool b)) ?_
  show (Ieee.double.order x y == some .gt) = false
  rw [Fl.gtr_num nx ny]; exact decide_eq_false (by omega)

end Go.Proofs.Qxb6613434a
