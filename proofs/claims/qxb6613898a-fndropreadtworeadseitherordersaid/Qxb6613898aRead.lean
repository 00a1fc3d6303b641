import Derived.Test.Qxb6613898aRows
import Derived.WalkKit
import Derived.ProofKit
import Derived.OpenShut
import Derived.WalkLawsBesides
import Derived.Deep.QuietTactic
import Derived.BigQuiet
namespace Go.Proofs.Qxb6613898a
open Go.RowKit
set_option linter.unusedVariables false

/-- a slice of words, as it can be read -/
def RdU (w : World) (v : Value) (us : List Int) : Prop :=
  ∃ a cap, v = .slice a us.length cap ∧ us.length ≤ 1048576 ∧ ∀ i (h : i < us.length), ∃ b off, a = some ⟨b, off, none⟩ ∧ w.cell? ⟨b, off + i, none⟩ = some (.int .u64 us[i])

theorem RdU.drewN {w : World} {v : Value} {us : List Int} (h : RdU w v us) (n : Nat) : RdU (w.drewN n) v us := h

theorem count_step (us : List Int) (x : Int) (k : Nat) (h : k < us.length) : ((us.take (k + 1)).count x : Int) = (us.take k).count x + if us[k] = x then 1 else 0 := by
  rw [List.take_succ_eq_append_getElem h, List.count_append, List.count_singleton]
  by_cases e : us[k] = x
  · simp [e]
  · simp [e]

theorem ret_int {k : IntKind} {a b : Int} (h : a = b) : Ending.returned (.int k a) = .returned (.int k b) := by rw [h]

set_option maxHeartbeats 400000 in
theorem count22 (v : Value) (us : List Int) (x : Int) (w : World) (hr : RdU w v us) :
    Calls Try.prog 22 #[v, .int .u64 x] w fun e w' => e = .returned (.int .i64 (us.count x : Nat)) ∧ w' = w := by
  obtain ⟨a, cap, rfl, hl, hc⟩ := hr
  have HC : Hid (∀ i (h : i < us.length), ∃ b off, a = some ⟨b, off, none⟩ ∧ w.cell? ⟨b, off + i, none⟩ = some (.int .u64 us[i])) := hc
  clear hc
  go_enter Try.func22, Try.ntmps22
  go_wp2
  go_loop [5, 6] (fun c i => ∃ k : Nat, k ≤ us.length ∧ i = .int .i64 k ∧ c = .int .i64 ((us.take k).count x : Nat)) (fun _ i => us.length - (intOf i).toNat)
  case atStart => exact ⟨0, by omega, rfl, rfl⟩
  case round =>
    obtain ⟨k, hk, rfl, rfl⟩ := hrel
    have hle : (us.take k).count x ≤ k := Nat.le_trans List.count_le_length (List.length_take_le _ _)
    by_cases hlt : k < us.length
    · obtain ⟨b, off, rfl, hcell⟩ := HC.out k hlt
      have HS : Hid _ := count_step us x k hlt
      generalize hu : us[k] = u at *
      generalize hq : (us.take k).count x = q at *
      clear hu
      by_cases hx : u = x
      · have hb : (u == x) = true := by simp [hx]
        have HX : Hid (u = x) := hx
        clear hx
        go_wp2
        go_round
        case rel => exact ⟨k + 1, by omega, by go_num, by rw [HS.out, if_pos HX.out]⟩
        case measure => simp [intOf]; omega
      · have hb : (u == x) = false := by simpa using hx
        have HX : Hid (¬ u = x) := hx
        clear hx
        go_wp2
        go_round
        case rel => exact ⟨k + 1, by omega, by go_num, by rw [HS.out, if_neg HX.out]; go_num⟩
        case measure => simp [intOf]; omega
    · go_wp2
      go_ret
      exact ⟨ret_int (by rw [List.take_of_length_le (by omega)]), rfl⟩


theorem drewN_drewN (w : World) (a b : Nat) : (w.drewN a).drewN b = w.drewN (a + b) := by
  simp [World.drewN, Nat.add_assoc]
/-- as it was, but for draws -/
def Drawn (w w' : World) : Prop := ∃ n, w' = w.drewN n
theorem Drawn.refl (w : World) : Drawn w w := ⟨0, rfl⟩
theorem Drawn.more {w w' : World} (h : Drawn w w') (n : Nat) : Drawn w (w'.drewN n) := by
  obtain ⟨m, rfl⟩ := h; exact ⟨m + n, drewN_drewN _ _ _⟩
theorem Drawn.trans {a b c : World} (h : Drawn a b) (k : Drawn b c) : Drawn a c := by
  obtain ⟨m, rfl⟩ := h; obtain ⟨n, rfl⟩ := k; exact ⟨m + n, drewN_drewN _ _ _⟩
theorem RdU.drawn {w w' : World} {v : Value} {us : List Int} (h : RdU w v us) (d : Drawn w w') : RdU w' v us := by
  obtain ⟨n, rfl⟩ := d; exact h.drewN n

set_option maxHeartbeats 400000 in
theorem eq20 (v v' : Value) (us : List Int) (w : World) (hr : RdU w v us) (hr' : RdU w v' us) :
    Calls Try.prog 20 #[v, v'] w fun e w' => e = .returned (.bool true) ∧ Drawn w w' := by
  obtain ⟨a, cap, rfl, hl, hc⟩ := hr
  obtain ⟨a', cap', rfl, _, hc'⟩ := hr'
  have HC : Hid (∀ i (h : i < us.length), ∃ b off, a = some ⟨b, off, none⟩ ∧ w.cell? ⟨b, off + i, none⟩ = some (.int .u64 us[i])) := hc
  have HC' : Hid (∀ i (h : i < us.length), ∃ b off, a' = some ⟨b, off, none⟩ ∧ w.cell? ⟨b, off + i, none⟩ = some (.int .u64 us[i])) := hc'
  clear hc hc'
  go_enter Try.func20, Try.ntmps20
  go_wp2
  go_loopw [5] (fun i wr => ∃ k : Nat, k ≤ us.length ∧ i = .int .i64 k ∧ Drawn w wr) (fun i wr => us.length - (intOf i).toNat)
  case atStart => exact ⟨0, by omega, rfl, Drawn.refl _⟩
  case round =>
    obtain ⟨k, hk, rfl, hd⟩ := hrel
    obtain ⟨n, rfl⟩ := hd
    by_cases hlt : k < us.length
    · obtain ⟨b, off, rfl, hcell⟩ := HC.out k hlt
      obtain ⟨b', off', rfl, hcell'⟩ := HC'.out k hlt
      generalize us[k] = u at *
      go_wp2
      go_quiet (fail)
      go_wp2
      go_roundw
      case rel => exact ⟨k + 1, by omega, by go_num, _, rfl⟩
      case measure => simp [intOf]; omega
    · go_wp2
      go_ret
      exact ⟨rfl, _, rfl⟩

theorem filter_step (s : List Int) (p : Int → Bool) (k : Nat) (h : k < s.length) : (s.take (k + 1)).filter p = (s.take k).filter p ++ if p s[k] then [s[k]] else [] := by
  rw [List.take_succ_eq_append_getElem h, List.filter_append]
  by_cases e : p s[k] = true
  · rw [if_pos e]; simp [e]
  · rw [if_neg e]; simp [e]
theorem filter_rest (s : List Int) (p : Int → Bool) (k : Nat) : s.filter p = (s.take k).filter p ++ (s.drop k).filter p := by
  rw [← List.filter_append, List.take_append_drop]
/-- the next that is kept, where the one at hand is kept -/
theorem filter_at (s : List Int) (p : Int → Bool) (k : Nat) (h : k < s.length) (hp : p s[k] = true) : ∃ hj : ((s.take k).filter p).length < (s.filter p).length, (s.filter p)[((s.take k).filter p).length] = s[k] := by
  have e : s.filter p = (s.take k).filter p ++ s[k] :: (s.drop (k + 1)).filter p := by
    have := filter_rest s p (k + 1)
    rw [filter_step s p k h, if_pos hp, List.append_assoc] at this
    exact this
  have hlen : ((s.take k).filter p).length < (s.filter p).length := by rw [e]; simp
  refine ⟨hlen, ?_⟩
  have : (s.filter p)[((s.take k).filter p).length]? = some s[k] := by rw [e]; simp
  rw [List.getElem?_eq_getElem hlen] at this
  exact Option.some.inj this
theorem filter_all (s : List Int) (p : Int → Bool) (j : Nat) (h : j < (s.filter p).length) : p (s.filter p)[j] = true :=
  (List.mem_filter.1 (List.getElem_mem h)).2
theorem filter_take_le (s : List Int) (p : Int → Bool) (k : Nat) : ((s.take k).filter p).length ≤ (s.filter p).length := by
  rw [filter_rest s p k]; simp
/-- all that is kept has come: the rest holds nothing that is kept -/
theorem filter_done (s : List Int) (p : Int → Bool) (k : Nat) (h : ((s.take k).filter p).length = (s.filter p).length) (i : Nat) (hi : k ≤ i) : ((s.take i).filter p).length = (s.filter p).length := by
  have a := filter_take_le s p i
  have b := filter_take_le (s.take i) p k
  rw [List.take_take, Nat.min_eq_left hi] at b
  omega

set_option maxHeartbeats 1000000 in
theorem subseq23 (v v' : Value) (s : List Int) (p : Int → Bool) (w : World) (hr : RdU w v (s.filter p)) (hr' : RdU w v' s) :
    Calls Try.prog 23 #[v, v'] w fun e w' => e = .returned (.bool true) ∧ Drawn w w' := by
  obtain ⟨a, cap, rfl, hl, hc⟩ := hr
  obtain ⟨a', cap', rfl, hl', hc'⟩ := hr'
  have HC : Hid (∀ i (h : i < (s.filter p).length), ∃ b off, a = some ⟨b, off, none⟩ ∧ w.cell? ⟨b, off + i, none⟩ = some (.int .u64 (s.filter p)[i])) := hc
  have HC' : Hid (∀ i (h : i < s.length), ∃ b off, a' = some ⟨b, off, none⟩ ∧ w.cell? ⟨b, off + i, none⟩ = some (.int .u64 s[i])) := hc'
  have HAT := filter_at s p
  have HALL := filter_all s p
  have HLE := filter_take_le s p
  have HST : ∀ k (h : k < s.length), ((s.take (k + 1)).filter p).length = ((s.take k).filter p).length + if p s[k] then 1 else 0 := by
    intro k h; rw [filter_step s p k h]; by_cases e : p s[k] = true <;> simp [e]
  have HEND : ((s.take s.length).filter p).length = (s.filter p).length := by rw [List.take_length]
  generalize hfs : s.filter p = fs at *
  clear hfs hc hc'
  have HHAT : Hid _ := HAT
  have HHALL : Hid _ := HALL
  have HHLE : Hid _ := HLE
  have HHST : Hid _ := HST
  have HHEND : Hid _ := HEND
  clear HAT HALL HLE HST HEND
  go_enter Try.func23, Try.ntmps23
  go_wp2
  go_loopw [5, 6] (fun j i wr => ∃ k : Nat, k ≤ s.length ∧ i = .int .i64 k ∧ j = .int .i64 (((s.take k).filter p).length : Nat) ∧ Drawn w wr) (fun j i wr => s.length - (intOf i).toNat)
  case atStart => exact ⟨0, by omega, rfl, rfl, Drawn.refl _⟩
  case round =>
    obtain ⟨k, hk, rfl, rfl, hd⟩ := hrel
    obtain ⟨n, rfl⟩ := hd
    have hq := HHLE.out k
    by_cases hlt : k < s.length
    · have HS : Hid _ := HHST.out k hlt
      by_cases hj : ((s.take k).filter p).length < fs.length
      · obtain ⟨b, off, rfl, hcell⟩ := HC.out _ hj
        obtain ⟨b', off', rfl, hcell'⟩ := HC'.out k hlt
        have hne : p s[k] = false → (s[k] == fs[((s.take k).filter p).length]) = false := by
          intro h
          have h2 := HHALL.out _ hj
          simp
          intro e
          rw [e] at h; rw [h] at h2; cases h2
        have heq : p s[k] = true → (s[k] == fs[((s.take k).filter p).length]) = true := by
          intro h
          obtain ⟨_, e⟩ := HHAT.out k hlt h
          simp [e]
        cases hp : p s[k]
        · have hb := hne hp
          have HP : Hid (p s[k] = false) := hp
          generalize s[k] = x at *
          generalize fs[((s.take k).filter p).length] = y at *
          generalize ((s.take k).filter p).length = q at *
          clear hne heq hp
          go_wp2
          go_quiet (fail)
          go_wp2
          go_roundw
          case rel => exact ⟨k + 1, by omega, by go_num, by rw [HS.out, HP.out]; go_num, _, rfl⟩
          case measure => simp [intOf]; omega
        · have hb := heq hp
          have HP : Hid (p s[k] = true) := hp
          generalize s[k] = x at *
          generalize fs[((s.take k).filter p).length] = y at *
          generalize ((s.take k).filter p).length = q at *
          clear hne heq hp
          go_wp2
          go_quiet (fail)
          go_wp2
          go_roundw
          case rel => exact ⟨k + 1, by omega, by go_num, by rw [HS.out, HP.out]; go_num, _, rfl⟩
          case measure => simp [intOf]; omega
      · have hje : ((s.take k).filter p).length = fs.length := by omega
        generalize ((s.take k).filter p).length = q at *
        subst hje
        go_wp2
        go_ret
        exact ⟨rfl, _, rfl⟩
    · have hje : ((s.take k).filter p).length = fs.length := by
        have : k = s.length := by omega
        rw [this]; exact HHEND.out
      generalize ((s.take k).filter p).length = q at *
      subst hje
      go_wp2
      go_ret
      exact ⟨rfl, _, rfl⟩

end Go.Proofs.Qxb6613898a
