import Derived.Test.Qxb6613898aDelete2
namespace Go.Proofs.Qxb6613898a
open Go.RowKit
set_option linter.unusedVariables false

theorem first_idx (us : List Int) (d : Int) (h : d ∈ us) : ∃ (k : Nat) (hk : k < us.length), us[k] = d ∧ ∀ i (hi : i < us.length), i < k → us[i] ≠ d := by
  induction us with
  | nil => cases h
  | cons x us ih =>
    by_cases e : x = d
    · exact ⟨0, by simp, e, fun i _ hi => absurd hi (Nat.not_lt_zero _)⟩
    · have h' : d ∈ us := by
        rcases List.mem_cons.1 h with h | h
        · exact absurd h.symm e
        · exact h
      obtain ⟨k, hk, hd, hf⟩ := ih h'
      refine ⟨k + 1, by simp; omega, by simpa using hd, fun i hi hlt => ?_⟩
      cases i with
      | zero => simpa using e
      | succ i =>
        have := hf i (by simpa using hi) (by omega)
        simpa using this

theorem delete17 (v : Value) (us : List Int) (d : Int) (I : Nat) (w : World) (ho : OU w v us) (hI : w.cell? ⟨I, 0, none⟩ = some (.int .u64 d)) (hIb : v.ownBlock ≠ some I) :
    Calls Try.prog 17 #[v, .func (.func 18) #[] #[.pointer (some ⟨I, 0, none⟩)]] w fun e w' => ∃ v', e = .returned v' ∧ OU w' v' (us.filter (notD d)) ∧ v'.ownBlock = v.ownBlock ∧ w.grownBy w' v.ownBlock := by
  have hix := index21 v us d I w ho.rd hI
  by_cases hm : d ∈ us
  · obtain ⟨k0, hk0, hat, hf⟩ := first_idx us d hm
    have hix' : Calls Try.prog 21 #[v, .func (.func 18) #[] #[.pointer (some ⟨I, 0, none⟩)]] w fun e w' => e = .returned (.int .i64 k0) ∧ w' = w := by
      refine hix.mono fun e w' ⟨hw, h⟩ => ⟨?_, hw⟩
      rcases h with ⟨_, h⟩ | ⟨k, hk, he, h1, h2⟩
      · exact absurd hm h
      · have : k = k0 := by
          by_cases c1 : k < k0
          · exact absurd h1 (hf k hk c1)
          · by_cases c2 : k0 < k
            · exact absurd hat (h2 k0 hk0 c2)
            · omega
        subst this; exact he
    rcases ho with ⟨rfl, rfl⟩ | ⟨b, cap, cur, rfl, hb, hs, hl, hcap, hc⟩
    · simp at hk0
    · have hne : I ≠ b := fun e => hIb (by subst e; rfl)
      exact delete17_found us d I b cap cur w k0 hk0 hat hf hb hs hl hcap hc hI hne hix'
  · have hix' : Calls Try.prog 21 #[v, .func (.func 18) #[] #[.pointer (some ⟨I, 0, none⟩)]] w fun e w' => e = .returned (.int .i64 (-1)) ∧ w' = w := by
      refine hix.mono fun e w' ⟨hw, h⟩ => ⟨?_, hw⟩
      rcases h with ⟨h, _⟩ | ⟨k, hk, he, h1, h2⟩
      · exact h
      · exact absurd (h1 ▸ List.getElem_mem hk) hm
    have HX : Hid (Calls Try.prog 21 #[v, .func (.func 18) #[] #[.pointer (some ⟨I, 0, none⟩)]] w fun e w' => e = .returned (.int .i64 (-1)) ∧ w' = w) := hix'
    have HO : Hid (OU w v us) := ho
    have HF : Hid (us.filter (notD d) = us) := filter_none us d hm
    clear hix hix' ho hm hI hIb
    go_enter Try.func17, Try.ntmps17
    go_wp2_with (go_at_call 21; refine HX.out.mono ?_; rintro e w' ⟨rfl, hw'⟩; obtain rfl := hw'.symm)
    go_ret
    exact ⟨v, rfl, by rw [HF.out]; exact HO.out, rfl, grown_refl _ _⟩

theorem drop16 (v : Value) (us : List Int) (d : Int) (I : Nat) (w : World) (ho : OU w v us) (hI : w.cell? ⟨I, 0, none⟩ = some (.int .u64 d)) (hIb : v.ownBlock ≠ some I) :
    Calls Try.prog 16 #[v, .pointer (some ⟨I, 0, none⟩)] w fun e w' => ∃ v', e = .returned v' ∧ OU w' v' (us.filter (notD d)) ∧ v'.ownBlock = v.ownBlock ∧ w.grownBy w' v.ownBlock := by
  have HX : Hid (Calls Try.prog 17 #[v, .func (.func 18) #[] #[.pointer (some ⟨I, 0, none⟩)]] w fun e w' => ∃ v', e = .returned v' ∧ OU w' v' (us.filter (notD d)) ∧ v'.ownBlock = v.ownBlock ∧ w.grownBy w' v.ownBlock) := delete17 v us d I w ho hI hIb
  have hmf : ∀ (fn : Fn) (first cap : Array Value) (w : World), (Instr.makeFunc fn first cap).run Try.prog w = .ok (.func fn first cap) w := fun _ _ _ _ => rfl
  clear ho hI hIb
  go_enter Try.func16, Try.ntmps16
  go_wp2_with (go_at_call 17; refine HX.out.mono ?_; rintro e w1 ⟨v', rfl, h⟩)
  go_ret
  exact ⟨v', rfl, h⟩

end Go.Proofs.Qxb6613898a
