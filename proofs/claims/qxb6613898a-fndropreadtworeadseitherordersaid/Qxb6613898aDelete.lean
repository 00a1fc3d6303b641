import Derived.Test.Qxb6613898aClone
namespace Go.Proofs.Qxb6613898a
open Go.RowKit
set_option linter.unusedVariables false

/-! ### clear -/
theorem store_many (b i : Nat) : ∀ (n k : Nat) (w : World) (cur : Array Value), w.heap[b]? = some (.cells cur 24 (0, 0)) → i + k + n ≤ cur.size →
    ∃ w' cur', (storeCells ⟨b, i, none⟩ (List.replicate n (.int .u64 0)) k).run Try.prog w = .ok () w' ∧ w'.heap[b]? = some (.cells cur' 24 (0, 0)) ∧ cur'.size = cur.size ∧ (∀ j, j < i → cur'[j]? = cur[j]?) ∧ w.grownBy w' (some b)
  | 0, k, w, cur, h, hn => ⟨w, cur, rfl, h, rfl, fun _ _ => rfl, ⟨rfl, rfl, rfl, Nat.le_refl _, fun _ _ _ => rfl⟩⟩
  | n + 1, k, w, cur, h, hn => by
    have hadd : (⟨b, i, none⟩ : Addr).add k = ⟨b, i + k, none⟩ := by unfold Addr.add; split <;> simp_all
    have hcell : w.cell? ⟨b, i + k, none⟩ = some cur[i + k] := by rw [cell_row h, Array.getElem?_eq_getElem]
    have hfree : w.frozen? ⟨b, i + k, none⟩ = false := free_row h
    obtain ⟨w', cur', h1, h2, h3, h4, h5⟩ := store_many b i n (k + 1) (w.setCell ⟨b, i + k, none⟩ (.int .u64 0)) (cur.setIfInBounds (i + k) (.int .u64 0)) (row_set _ h) (by rw [Array.size_setIfInBounds]; omega)
    refine ⟨w', cur', ?_, h2, by rw [h3, Array.size_setIfInBounds], fun j hj => ?_, ?_⟩
    · rw [List.replicate_succ, storeCells, hadd]
      simp [store, Sem.run, hcell, hfree, h1]
    · rw [h4 j hj, Array.getElem?_setIfInBounds, if_neg (by omega)]
    · refine ⟨h5.os, h5.tape, h5.output, ?_, fun j hj hne => ?_⟩
      · have := h5.size; simpa [World.setCell] using this
      · rw [h5.block j (by simpa [World.setCell] using hj) hne]
        exact Below.heap_setCell _ _ _ _ (fun e => hne (by rw [e]))

theorem zeroCells24 (n : Nat) : (Builtin.zeroCells (Value.int .u64 0).cells n).toList = List.replicate n (Value.int .u64 0) := by
  show (madeCells #[Value.int .u64 0] (n * 1)).toList = _
  rw [Nat.mul_one, toList_madeCells_one]

theorem clear22 (w : World) (b i n cap : Nat) (cur : Array Value) (t : TypeId) (h : w.heap[b]? = some (.cells cur 24 (0, 0))) (hn : i + n ≤ cur.size) (h0 : 0 < n) :
    ∃ w' cur', (Builtin.clear_ #[22] t #[.slice (some ⟨b, i, none⟩) n cap]).run Try.prog w = .ok (.tuple #[]) w' ∧ w'.heap[b]? = some (.cells cur' 24 (0, 0)) ∧ cur'.size = cur.size ∧ (∀ j, j < i → cur'[j]? = cur[j]?) ∧ w.grownBy w' (some b) := by
  obtain ⟨w', cur', h1, h2⟩ := store_many b i n 0 w cur h (by omega)
  refine ⟨w', cur', ?_, h2⟩
  have hz : ∀ w, (zeroValue 24).run Try.prog w = .ok (.int .u64 0) w := fun w => by kernel_rfl
  obtain ⟨m, rfl⟩ : ∃ m, n = m + 1 := ⟨n - 1, by omega⟩
  simp [Builtin.clear_, run_underlying Try.underlying22, hz, zeroCells24, h1, Result.andThen]


/-! ### the closure, IndexFunc, DeleteFunc -/
theorem is18 (x d : Int) (I : Nat) (w : World) (hI : w.cell? ⟨I, 0, none⟩ = some (.int .u64 d)) :
    Calls Try.prog 18 #[.int .u64 x, .pointer (some ⟨I, 0, none⟩)] w fun e w' => e = .returned (.bool (x == d)) ∧ w' = w := by
  go_enter Try.func18, Try.ntmps18
  go_wp2
  go_ret
  exact ⟨rfl, rfl⟩

structure Is (x d : Int) (I : Nat) (b : Bool) (w : World) : Prop where
  out : Calls Try.prog 18 #[.int .u64 x, .pointer (some ⟨I, 0, none⟩)] w fun e w' => e = .returned (.bool b) ∧ w' = w

set_option maxHeartbeats 1000000 in
theorem index21 (v : Value) (us : List Int) (d : Int) (I : Nat) (w : World) (hr : RdU w v us) (hI : w.cell? ⟨I, 0, none⟩ = some (.int .u64 d)) :
    Calls Try.prog 21 #[v, .func (.func 18) #[] #[.pointer (some ⟨I, 0, none⟩)]] w fun e w' => w' = w ∧
      ((e = .returned (.int .i64 (-1)) ∧ d ∉ us) ∨ ∃ (k : Nat) (h : k < us.length), e = .returned (.int .i64 k) ∧ us[k] = d ∧ ∀ i (hi : i < us.length), i < k → us[i] ≠ d) := by
  obtain ⟨a, cap, rfl, hl, hc⟩ := hr
  have HC : Hid (∀ i (h : i < us.length), ∃ b off, a = some ⟨b, off, none⟩ ∧ w.cell? ⟨b, off + i, none⟩ = some (.int .u64 us[i])) := hc
  have HI : Hid (w.cell? ⟨I, 0, none⟩ = some (.int .u64 d)) := hI
  clear hc hI
  go_enter Try.func21, Try.ntmps21
  go_wp2
  go_loop [8] (fun i => ∃ k : Nat, k ≤ us.length ∧ i = .int .i64 k ∧ Hid (∀ i (hi : i < us.length), i < k → us[i] ≠ d)) (fun i => us.length - (intOf i).toNat)
  case atStart => exact ⟨0, by omega, rfl, fun i _ h => absurd h (Nat.not_lt_zero _)⟩
  case round =>
    obtain ⟨k, hk, rfl, HN⟩ := hrel
    by_cases hlt : k < us.length
    · obtain ⟨b, off, rfl, hcell⟩ := HC.out k hlt
      by_cases hx : us[k] = d
      · have e1 : Is us[k] d I true w := ⟨by have := is18 us[k] d I w HI.out; rwa [show (us[k] == d) = true by simp [hx]] at this⟩
        have HX : Hid (us[k] = d) := hx
        have HXk : Hid (∃ h : k < us.length, us[k] = d) := ⟨hlt, hx⟩
        clear hx HX
        generalize us[k] = u at *
        go_wp2_with (go_at_call 18; refine e1.out.mono ?_; rintro e w' ⟨rfl, hw'⟩; obtain rfl := hw'.symm)
        go_ret
        exact ⟨rfl, .inr ⟨k, hlt, rfl, HXk.out.2, HN.out⟩⟩
      · have e1 : Is us[k] d I false w := ⟨by have := is18 us[k] d I w HI.out; rwa [show (us[k] == d) = false by simp [hx]] at this⟩
        have HX : Hid (∀ i (hi : i < us.length), i < k + 1 → us[i] ≠ d) := (fun i hi h => by
          by_cases e : i = k
          · subst e; exact hx
          · exact HN.out i hi (by omega))
        clear hx
        generalize us[k] = u at *
        go_wp2_with (go_at_call 18; refine e1.out.mono ?_; rintro e w' ⟨rfl, hw'⟩; obtain rfl := hw'.symm)
        go_round
        case rel => exact ⟨k + 1, by omega, by go_num, HX⟩
        case measure => simp [intOf]; omega
    · go_wp2
      go_ret
      refine ⟨rfl, .inl ⟨rfl, fun hm => ?_⟩⟩
      obtain ⟨i, hi, e⟩ := List.mem_iff_getElem.1 hm
      exact HN.out i hi (by omega) e

end Go.Proofs.Qxb6613898a
