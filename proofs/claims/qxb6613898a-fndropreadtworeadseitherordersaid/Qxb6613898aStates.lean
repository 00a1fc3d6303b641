import Derived.Test.Qxb6613898aDropped
namespace Go.Proofs.Qxb6613898a
open Go.RowKit
set_option linter.unusedVariables false

/-- a slice of slices of words, as it can be read -/
def RdUU (w : World) (v : Value) (uss : List (List Int)) : Prop :=
  ∃ a cap, v = .slice a uss.length cap ∧ uss.length ≤ 1048576 ∧ ∀ i (h : i < uss.length), ∃ b off x, a = some ⟨b, off, none⟩ ∧ w.cell? ⟨b, off + i, none⟩ = some x ∧ RdU w x uss[i]

/-- a call that answers true and only draws -/
structure Says (f : FuncId) (args : Array Value) (w : World) : Prop where
  at0 : Calls Try.prog f args w fun e w' => e = .returned (.bool true) ∧ ∃ m, w' = w.drewN m
  at_ : ∀ n, Calls Try.prog f args (w.drewN n) fun e w' => e = .returned (.bool true) ∧ ∃ m, w' = w.drewN m
theorem Says.mk' {f : FuncId} {args : Array Value} {w : World} (h : ∀ n, Calls Try.prog f args (w.drewN n) fun e w' => e = .returned (.bool true) ∧ Drawn (w.drewN n) w') : Says f args w :=
  ⟨(h 0).mono fun e w' ⟨he, m, hm⟩ => ⟨he, 0 + m, by rw [hm, drewN_drewN]⟩, fun n => (h n).mono fun e w' ⟨he, m, hm⟩ => ⟨he, n + m, by rw [hm, drewN_drewN]⟩⟩
theorem Says.drewN {f : FuncId} {args : Array Value} {w : World} (h : ∀ n, Calls Try.prog f args (w.drewN n) fun e w' => e = .returned (.bool true) ∧ Drawn (w.drewN n) w') (k : Nat) : Says f args (w.drewN k) :=
  Says.mk' fun n => by rw [drewN_drewN]; exact h _

theorem Drawn.cell {w w' : World} (h : Drawn w w') {a : Addr} {v : Value} (hc : w.cell? a = some v) : w'.cell? a = some v := by
  obtain ⟨n, rfl⟩ := h; exact hc

set_option maxHeartbeats 1000000 in
theorem same13 (v1 v2 v3 v4 x1 x2 x3 x4 : Value) (A S T : List Int) (R : List (List Int)) (w : World)
    (h1 : RdU w v1 A) (h2 : RdU w v2 S) (h3 : RdU w v3 T) (h4 : RdUU w v4 R) (g1 : RdU w x1 A) (g2 : RdU w x2 S) (g3 : RdU w x3 T) (g4 : RdUU w x4 R) :
    Calls Try.prog 13 #[v1, v2, v3, v4, x1, x2, x3, x4] w fun e w' => e = .returned (.bool true) ∧ Drawn w w' := by
  have e1 : Says 20 #[v1, x1] w := Says.mk' fun n => eq20 v1 x1 A _ (h1.drewN n) (g1.drewN n)
  have e2 : Says 20 #[v2, x2] w := Says.mk' fun n => eq20 v2 x2 S _ (h2.drewN n) (g2.drewN n)
  have e3 : Says 20 #[v3, x3] w := Says.mk' fun n => eq20 v3 x3 T _ (h3.drewN n) (g3.drewN n)
  clear h1 h2 h3 g1 g2 g3
  obtain ⟨a, cap, rfl, hl, hc⟩ := h4
  obtain ⟨a', cap', rfl, _, hc'⟩ := g4
  have HC : Hid (∀ i (h : i < R.length), ∃ b off x, a = some ⟨b, off, none⟩ ∧ w.cell? ⟨b, off + i, none⟩ = some x ∧ RdU w x R[i]) := hc
  have HC' : Hid (∀ i (h : i < R.length), ∃ b off x, a' = some ⟨b, off, none⟩ ∧ w.cell? ⟨b, off + i, none⟩ = some x ∧ RdU w x R[i]) := hc'
  clear hc hc'
  go_enter Try.func13, Try.ntmps13
  go_wp2_with (go_at_call 20; first | (refine (Says.at0 (by assumption)).mono ?_; rintro e w' ⟨rfl, m, rfl⟩) | (refine (Says.at_ (by assumption) _).mono ?_; rintro e w' ⟨rfl, m, rfl⟩))
  go_loopw [17] (fun i wr => ∃ k : Nat, k ≤ R.length ∧ i = .int .i64 k ∧ Drawn w wr) (fun i wr => R.length - (intOf i).toNat)
  case atStart => exact ⟨0, by omega, rfl, _, rfl⟩
  case round =>
    obtain ⟨k, hk, rfl, hd⟩ := hrel
    have HD : Hid (Drawn w wr) := hd
    clear e1 e2 e3 hd
    by_cases hlt : k < R.length
    · obtain ⟨b, off, x, rfl, hcell0, hx0⟩ := HC.out k hlt
      obtain ⟨b', off', x', rfl, hcell0', hx0'⟩ := HC'.out k hlt
      have hcell := HD.out.cell hcell0
      have hcell' := HD.out.cell hcell0'
      have hx := hx0.drawn HD.out
      have hx' := hx0'.drawn HD.out
      clear hcell0 hcell0' hx0 hx0'
      have e4 : Says 20 #[x, x'] wr := Says.mk' fun n => eq20 x x' _ _ (hx.drewN n) (hx'.drewN n)
      clear hx hx'
      go_wp2
      go_quiet ((go_at_call 20; exact e4.at_ _))
      go_wp2
      go_roundw
      case rel => exact ⟨k + 1, by omega, by go_num, HD.out.more _⟩
      case measure => simp [intOf]; omega
    · go_wp2
      go_ret
      exact ⟨rfl, HD.out⟩

set_option maxHeartbeats 1000000 in
theorem dropped12 (v1 v2 v3 v4 x1 x2 x3 x4 : Value) (A S T : List Int) (R : List (List Int)) (a0 b0 : Int) (w : World)
    (h1 : RdU w v1 A) (h2 : RdU w v2 S) (h3 : RdU w v3 T) (h4 : RdUU w v4 R) (g1 : RdU w x1 (A.filter (keep a0 b0))) (g2 : RdU w x2 (S.filter (keep a0 b0))) (g3 : RdU w x3 T) (g4 : RdUU w x4 (R.map (·.filter (keep a0 b0)))) :
    Calls Try.prog 12 #[v1, v2, v3, v4, x1, x2, x3, x4, .int .u64 a0, .int .u64 b0] w fun e w' => e = .returned (.bool true) ∧ Drawn w w' := by
  have e1 : Says 19 #[v1, x1, .int .u64 a0, .int .u64 b0] w := Says.mk' fun n => dropped19 v1 x1 A a0 b0 _ (h1.drewN n) (g1.drewN n)
  have e2 : Says 19 #[v2, x2, .int .u64 a0, .int .u64 b0] w := Says.mk' fun n => dropped19 v2 x2 S a0 b0 _ (h2.drewN n) (g2.drewN n)
  have e3 : Says 20 #[v3, x3] w := Says.mk' fun n => eq20 v3 x3 T _ (h3.drewN n) (g3.drewN n)
  clear h1 h2 h3 g1 g2 g3
  obtain ⟨a, cap, rfl, hl, hc⟩ := h4
  obtain ⟨a', cap', rfl, _, hc'⟩ := g4
  rw [List.length_map]
  have HC : Hid (∀ i (h : i < R.length), ∃ b off x, a = some ⟨b, off, none⟩ ∧ w.cell? ⟨b, off + i, none⟩ = some x ∧ RdU w x R[i]) := hc
  have HC' : Hid (∀ i (h : i < R.length), ∃ b off x, a' = some ⟨b, off, none⟩ ∧ w.cell? ⟨b, off + i, none⟩ = some x ∧ RdU w x (R[i].filter (keep a0 b0))) := (fun i h => by
    have := hc' i (by simpa using h)
    rwa [List.getElem_map] at this)
  clear hc hc'
  go_enter Try.func12, Try.ntmps12
  go_wp2_with (first
    | (go_at_call 19; first | (refine (Says.at0 (by assumption)).mono ?_; rintro e w' ⟨rfl, m, rfl⟩) | (refine (Says.at_ (by assumption) _).mono ?_; rintro e w' ⟨rfl, m, rfl⟩))
    | (go_at_call 20; first | (refine (Says.at0 (by assumption)).mono ?_; rintro e w' ⟨rfl, m, rfl⟩) | (refine (Says.at_ (by assumption) _).mono ?_; rintro e w' ⟨rfl, m, rfl⟩)))
  go_loopw [21] (fun i wr => ∃ k : Nat, k ≤ R.length ∧ i = .int .i64 k ∧ Drawn w wr) (fun i wr => R.length - (intOf i).toNat)
  case atStart => exact ⟨0, by omega, rfl, _, rfl⟩
  case round =>
    obtain ⟨k, hk, rfl, hd⟩ := hrel
    have HD : Hid (Drawn w wr) := hd
    clear e1 e2 e3 hd
    by_cases hlt : k < R.length
    · obtain ⟨b, off, x, rfl, hcell0, hx0⟩ := HC.out k hlt
      obtain ⟨b', off', x', rfl, hcell0', hx0'⟩ := HC'.out k hlt
      have hcell := HD.out.cell hcell0
      have hcell' := HD.out.cell hcell0'
      have hx := hx0.drawn HD.out
      have hx' := hx0'.drawn HD.out
      clear hcell0 hcell0' hx0 hx0'
      have e4 : Says 19 #[x, x', .int .u64 a0, .int .u64 b0] wr := Says.mk' fun n => dropped19 x x' _ a0 b0 _ (hx.drewN n) (hx'.drewN n)
      clear hx hx'
      go_wp2
      go_quiet ((go_at_call 19; exact e4.at_ _))
      go_wp2
      go_roundw
      case rel => exact ⟨k + 1, by omega, by go_num, HD.out.more _⟩
      case measure => simp [intOf]; omega
    · go_wp2
      go_ret
      exact ⟨rfl, HD.out⟩

end Go.Proofs.Qxb6613898a
