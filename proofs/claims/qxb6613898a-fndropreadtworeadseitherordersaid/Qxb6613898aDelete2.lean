import Derived.Test.Qxb6613898aDelete
namespace Go.Proofs.Qxb6613898a
open Go.RowKit
set_option linter.unusedVariables false

/-- not d -/
def notD (d x : Int) : Bool := !(x == d)
theorem filter_none (us : List Int) (d : Int) (h : d ∉ us) : us.filter (notD d) = us := by
  rw [List.filter_eq_self]
  intro a ha
  simp [notD]
  intro e; subst e; exact h ha
theorem filter_first (us : List Int) (d : Int) (k : Nat) (h : ∀ i (hi : i < us.length), i < k → us[i] ≠ d) : (us.take k).filter (notD d) = us.take k := by
  rw [List.filter_eq_self]
  intro a ha
  obtain ⟨i, hi, e⟩ := List.mem_iff_getElem.1 ha
  rw [List.getElem_take] at e
  rw [List.length_take] at hi
  have := h i (by omega) (by omega)
  simp [notD, ← e, this]

theorem grown_trans {a b c : World} {r : Option Nat} (h : a.grownBy b r) (k : b.grownBy c r) : a.grownBy c r :=
  ⟨k.os.trans h.os, k.tape.trans h.tape, k.output.trans h.output, Nat.le_trans h.size k.size, fun i hi hne => (k.block i (Nat.lt_of_lt_of_le hi h.size) hne).trans (h.block i hi hne)⟩
theorem grown_refl (w : World) (r : Option Nat) : w.grownBy w r := ⟨rfl, rfl, rfl, Nat.le_refl _, fun _ _ _ => rfl⟩
theorem grown_set (w : World) (b i : Nat) (v : Value) : w.grownBy (w.setCell ⟨b, i, none⟩ v) (some b) :=
  ⟨rfl, rfl, rfl, by simp [World.setCell], fun j hj hne => Below.heap_setCell _ _ _ _ (fun e => hne (by rw [e]))⟩

set_option maxHeartbeats 2000000 in
theorem delete17_found (us : List Int) (d : Int) (I b cap : Nat) (cur0 : Array Value) (w : World) (k0 : Nat) (hk0 : k0 < us.length) (hat : us[k0] = d) (hfirst : ∀ i (hi : i < us.length), i < k0 → us[i] ≠ d)
    (hrow : w.heap[b]? = some (.cells cur0 24 (0, 0))) (hs : cur0.size = cap) (hlc : us.length ≤ cap) (hcap : cap ≤ 1048576) (hc : ∀ i (h : i < us.length), cur0[i]? = some (.int .u64 us[i]))
    (hI : w.cell? ⟨I, 0, none⟩ = some (.int .u64 d)) (hIb : I ≠ b) (hidx : Calls Try.prog 21 #[.slice (some ⟨b, 0, none⟩) us.length cap, .func (.func 18) #[] #[.pointer (some ⟨I, 0, none⟩)]] w fun e w' => e = .returned (.int .i64 k0) ∧ w' = w) :
    Calls Try.prog 17 #[.slice (some ⟨b, 0, none⟩) us.length cap, .func (.func 18) #[] #[.pointer (some ⟨I, 0, none⟩)]] w fun e w' => ∃ v', e = .returned v' ∧ OU w' v' (us.filter (notD d)) ∧ v'.ownBlock = some b ∧ w.grownBy w' (some b) := by
  have hIlt : I < w.heap.size := World.block_lt_of_cell? w ⟨I, 0, none⟩ hI
  -- the plain facts of the filter
  have q0 : ((us.take (k0 + 1)).filter (notD d)).length = k0 := by
    rw [filter_step us (notD d) k0 hk0, filter_first us d k0 hfirst, hat]
    simp [notD]; omega
  have qlt : ∀ j, k0 + 1 ≤ j → j ≤ us.length → ((us.take j).filter (notD d)).length + 1 ≤ j := by
    intro j
    induction j with
    | zero => intro h; omega
    | succ j ih =>
      intro h1 h2
      by_cases e : j = k0
      · subst e; omega
      · have := ih (by omega) (by omega)
        rw [filter_step us (notD d) j (by omega)]
        split <;> simp <;> omega
  have qstep : ∀ j (h : j < us.length), ((us.take (j + 1)).filter (notD d)).length = ((us.take j).filter (notD d)).length + if notD d us[j] then 1 else 0 := by
    intro k h; rw [filter_step us (notD d) k h]; by_cases e : notD d us[k] = true <;> simp [e]
  have qat := filter_at us (notD d)
  have qle := filter_take_le us (notD d)
  have qend : ((us.take us.length).filter (notD d)).length = (us.filter (notD d)).length := by rw [List.take_length]
  have c0 : ∀ t (h : t < (us.filter (notD d)).length), t < ((us.take (k0 + 1)).filter (notD d)).length → cur0[t]? = some (.int .u64 (us.filter (notD d))[t]) := by
    intro t ht htl
    rw [q0] at htl
    have htu : t < us.length := by omega
    rw [hc t htu]
    have hp : notD d us[t] = true := by simp [notD]; exact hfirst t htu htl
    obtain ⟨_, e⟩ := qat t htu hp
    have hl : ((us.take t).filter (notD d)).length = t := by
      rw [filter_first us d t (fun i hi h => hfirst i hi (by omega)), List.length_take]; omega
    simp only [hl] at e
    rw [e]
  have HQ0 : Hid (((us.take (k0 + 1)).filter (notD d)).length = k0) := q0
  have HQLT : Hid (∀ j, k0 + 1 ≤ j → j ≤ us.length → ((us.take j).filter (notD d)).length + 1 ≤ j) := qlt
  have HQST : Hid (∀ j (h : j < us.length), ((us.take (j + 1)).filter (notD d)).length = ((us.take j).filter (notD d)).length + if notD d us[j] then 1 else 0) := qstep
  have HQAT : Hid (∀ (k : Nat) (h : k < us.length), notD d us[k] = true → ∃ hj : ((us.take k).filter (notD d)).length < (us.filter (notD d)).length, (us.filter (notD d))[((us.take k).filter (notD d)).length] = us[k]) := qat
  have HQEND : Hid (((us.take us.length).filter (notD d)).length = (us.filter (notD d)).length) := qend
  have HC0 : Hid (∀ t (h : t < (us.filter (notD d)).length), t < ((us.take (k0 + 1)).filter (notD d)).length → cur0[t]? = some (.int .u64 (us.filter (notD d))[t])) := c0
  have HC : Hid (∀ i (h : i < us.length), cur0[i]? = some (.int .u64 us[i])) := hc
  have HI : Hid (w.cell? ⟨I, 0, none⟩ = some (.int .u64 d)) := hI
  have HX : Hid (Calls Try.prog 21 #[.slice (some ⟨b, 0, none⟩) us.length cap, .func (.func 18) #[] #[.pointer (some ⟨I, 0, none⟩)]] w fun e w' => e = .returned (.int .i64 k0) ∧ w' = w) := hidx
  have HRow0 : Hid (w.heap[b]? = some (.cells cur0 24 (0, 0))) := hrow
  have HS0 : Hid (cur0.size = cap) := hs
  clear q0 qlt qstep qat qle qend c0 hc hI hidx hrow hs hfirst hat
  have hne1 : ((k0 : Int) == -1) = false := by first | (simp; done) | (simp; omega)
  go_enter Try.func17, Try.ntmps17
  go_wp2_with (go_at_call 21; refine HX.out.mono ?_; rintro e w' ⟨rfl, hw'⟩; obtain rfl := hw'.symm)
  go_loopw [5, 6] (fun qi ji wr => ∃ (j : Nat) (cur : Array Value), k0 + 1 ≤ j ∧ j ≤ us.length ∧ ji = .int .i64 j ∧ qi = .int .i64 (((us.take j).filter (notD d)).length : Nat) ∧ wr.heap[b]? = some (.cells cur 24 (0, 0)) ∧ cur.size = cap ∧ (∀ t (h : t < (us.filter (notD d)).length), t < ((us.take j).filter (notD d)).length → cur[t]? = some (.int .u64 (us.filter (notD d))[t])) ∧ (∀ t (h : t < us.length), j ≤ t → cur[t]? = some (.int .u64 us[t])) ∧ w.grownBy wr (some b)) (fun qi ji wr => us.length - (intOf ji).toNat)
  case atStart => exact ⟨k0 + 1, cur0, by omega, by omega, by go_num, by rw [HQ0.out], HRow0.out, HS0.out, HC0.out, fun t h _ => HC.out t h, grown_refl _ _⟩
  case round =>
    obtain ⟨j, cur, hj0, hj1, rfl, rfl, hrow, hsz, hpre, hpost, hg⟩ := hrel
    have HRow : Hid (wr.heap[b]? = some (.cells cur 24 (0, 0))) := hrow
    have HPre : Hid (∀ t (h : t < (us.filter (notD d)).length), t < ((us.take j).filter (notD d)).length → cur[t]? = some (.int .u64 (us.filter (notD d))[t])) := hpre
    have HPost : Hid (∀ t (h : t < us.length), j ≤ t → cur[t]? = some (.int .u64 us[t])) := hpost
    have HG : Hid (w.grownBy wr (some b)) := hg
    have HSz : Hid (cur.size = cap) := hsz
    have hq := HQLT.out j hj0 hj1
    clear hrow hpre hpost hg hsz
    have HIr : Hid (wr.cell? ⟨I, 0, none⟩ = some (.int .u64 d)) := (World.cell?_of_block (a := ⟨I, 0, none⟩) (HG.out.block I hIlt (fun e => hIb (Option.some.inj e)))).trans HI.out
    by_cases hlt : j < us.length
    · have hcell : wr.cell? ⟨b, j, none⟩ = some (.int .u64 us[j]) := (cell_row HRow.out).trans (HPost.out j hlt (Nat.le_refl _))
      have HST : Hid (((us.take (j + 1)).filter (notD d)).length = ((us.take j).filter (notD d)).length + if notD d us[j] then 1 else 0) := HQST.out j hlt
      cases hp : notD d us[j]
      · have e1 : Is us[j] d I true wr := ⟨by have := is18 us[j] d I wr HIr.out; rwa [show (us[j] == d) = true by simpa [notD] using hp] at this⟩
        have HQ1 : Hid (((us.take (j + 1)).filter (notD d)).length = ((us.take j).filter (notD d)).length) := (by show _ = _; rw [HST.out, hp]; rfl)
        clear hp HST
        generalize us[j] = u at *
        generalize hqd : ((us.take j).filter (notD d)).length = q at *
        clear hqd
        go_wp2_with (go_at_call 18; refine e1.out.mono ?_; rintro e w' ⟨rfl, hw'⟩; obtain rfl := hw'.symm)
        go_roundw
        case rel => exact ⟨j + 1, cur, by omega, by omega, by go_num, by rw [HQ1.out], HRow.out, HSz.out, (fun t h ht => HPre.out t h (by rw [HQ1.out] at ht; exact ht)), (fun t h ht => HPost.out t h (by omega)), HG.out⟩
        case measure => simp [intOf]; omega
      · have e1 : Is us[j] d I false wr := ⟨by have := is18 us[j] d I wr HIr.out; rwa [show (us[j] == d) = false by simpa [notD] using hp] at this⟩
        have HQ1 : Hid (((us.take (j + 1)).filter (notD d)).length = ((us.take j).filter (notD d)).length + 1) := (by show _ = _; rw [HST.out, hp]; rfl)
        have HF : Hid (∃ hj : ((us.take j).filter (notD d)).length < (us.filter (notD d)).length, (us.filter (notD d))[((us.take j).filter (notD d)).length] = us[j]) := HQAT.out j hlt hp
        have hqs : ((us.take j).filter (notD d)).length < cur.size := by rw [HSz.out]; omega
        have hold : wr.cell? ⟨b, ((us.take j).filter (notD d)).length, none⟩ = some cur[((us.take j).filter (notD d)).length]! := by
          rw [cell_row HRow.out, getElem!_pos cur _ hqs, Array.getElem?_eq_getElem]
        have hfree : wr.frozen? ⟨b, ((us.take j).filter (notD d)).length, none⟩ = false := free_row HRow.out
        clear hp HST
        generalize huj : us[j] = u at *
        clear huj
        generalize hqd : ((us.take j).filter (notD d)).length = q at *
        clear hqd
        generalize cur[q]! = old at *
        go_wp2_with (go_at_call 18; refine e1.out.mono ?_; rintro e w' ⟨rfl, hw'⟩; obtain rfl := hw'.symm)
        go_roundw
        case rel =>
          refine ⟨j + 1, cur.setIfInBounds q (.int .u64 u), by omega, by omega, by go_num, by rw [HQ1.out]; go_num, row_set _ HRow.out, by rw [Array.size_setIfInBounds]; exact HSz.out, (fun t h ht => ?_), (fun t h ht => ?_), grown_trans HG.out (grown_set _ _ _ _)⟩
          · rw [HQ1.out] at ht
            rw [Array.getElem?_setIfInBounds]
            by_cases e : q = t
            · subst e; rw [if_pos rfl, if_pos hqs, HF.out.2]
            · rw [if_neg e]; exact HPre.out t h (by omega)
          · rw [Array.getElem?_setIfInBounds, if_neg (by omega)]; exact HPost.out t h (by omega)
        case measure => simp [intOf]; omega
    · have hje : j = us.length := by omega
      have HQE : Hid (((us.take j).filter (notD d)).length = (us.filter (notD d)).length) := (by show _ = _; rw [hje]; exact HQEND.out)
      obtain ⟨w2, cur2, r1, r2, r3, r4, r5⟩ := clear22 wr b (((us.take j).filter (notD d)).length) (us.length - ((us.take j).filter (notD d)).length) (cap - ((us.take j).filter (notD d)).length) cur 0 HRow.out (by rw [HSz.out]; omega) (by omega)
      have hclr : ∀ t, (Builtin.clear_ #[22] t #[.slice (some ⟨b, ((us.take j).filter (notD d)).length, none⟩) (us.length - ((us.take j).filter (notD d)).length) (cap - ((us.take j).filter (notD d)).length)]).run Try.prog wr = .ok (.tuple #[]) w2 := fun t => r1
      have HR2 : Hid (w2.heap[b]? = some (.cells cur2 24 (0, 0))) := r2
      have HR3 : Hid (cur2.size = cur.size) := r3
      have HR4 : Hid (∀ i, i < ((us.take j).filter (notD d)).length → cur2[i]? = cur[i]?) := r4
      have HR5 : Hid (wr.grownBy w2 (some b)) := r5
      clear r1 r2 r3 r4 r5
      generalize hqd : ((us.take j).filter (notD d)).length = q at *
      clear hqd
      go_wp2
      go_ret
      refine ⟨.slice (some ⟨b, 0, none⟩) q cap, rfl, .inr ⟨b, cap, cur2, by rw [← HQE.out], HR2.out, by rw [HR3.out]; exact HSz.out, by rw [← HQE.out]; omega, hcap, (fun i h => ?_)⟩, rfl, grown_trans HG.out HR5.out⟩
      rw [HR4.out i (by rw [HQE.out]; exact h)]
      exact HPre.out i h (by rw [HQE.out]; exact h)

end Go.Proofs.Qxb6613898a
