import Derived.Test.Qxb6613898aRead
namespace Go.Proofs.Qxb6613898a
open Go.RowKit
set_option linter.unusedVariables false

/-- neither a nor b -/
def keep (a b x : Int) : Bool := !(x == a) && !(x == b)

theorem len_keep (a b : Int) (us : List Int) : (us.filter (keep a b)).length + us.count a + (if b = a then 0 else us.count b) = us.length := by
  induction us with
  | nil => simp
  | cons x us ih =>
    have hk : keep a b x = (!(x == a) && !(x == b)) := rfl
    rw [List.filter_cons, List.count_cons, List.count_cons, List.length_cons, hk]
    by_cases hx : x = a
    · subst hx
      by_cases hb : b = x
      · subst hb; simp at ih ⊢; omega
      · have h2 : ¬ x = b := fun e => hb e.symm
        simp [hb] at ih ⊢
        simp [h2]; omega
    · by_cases hy : x = b
      · subst hy; simp [hx] at ih ⊢; omega
      · by_cases hb : b = a
        · subst hb; simp [hx] at ih ⊢; omega
        · simp [hx, hy, hb] at ih ⊢; omega
theorem count_keep_a (a b : Int) (us : List Int) : (us.filter (keep a b)).count a = 0 := by
  rw [List.count_eq_zero]; intro h; simp [keep] at h
theorem count_keep_b (a b : Int) (us : List Int) : (us.filter (keep a b)).count b = 0 := by
  rw [List.count_eq_zero]; intro h; simp [keep] at h

/-- what zzCount gives -/
structure Cnt (w : World) (v : Value) (x : Int) (n : Nat) : Prop where
  out : Calls Try.prog 22 #[v, .int .u64 x] w fun e w' => e = .returned (.int .i64 (n : Nat)) ∧ w' = w

set_option maxHeartbeats 1000000 in
theorem dropped19 (vo vn : Value) (old : List Int) (a b : Int) (w : World) (ho : RdU w vo old) (hn : RdU w vn (old.filter (keep a b))) :
    Calls Try.prog 19 #[vo, vn, .int .u64 a, .int .u64 b] w fun e w' => e = .returned (.bool true) ∧ Drawn w w' := by
  have hlen := len_keep a b old
  have ca := count_keep_a a b old
  have cb := count_keep_b a b old
  have Ka : Cnt w vo a (old.count a) := ⟨count22 vo old a w ho⟩
  have Kb : Cnt w vo b (old.count b) := ⟨count22 vo old b w ho⟩
  have K2 : Cnt w vn a 0 := ⟨ca ▸ count22 vn (old.filter (keep a b)) a w hn⟩
  have K3 : Cnt w vn b 0 := ⟨cb ▸ count22 vn (old.filter (keep a b)) b w hn⟩
  have HK4 : Hid (Calls Try.prog 23 #[vn, vo] w fun e w' => e = .returned (.bool true) ∧ Drawn w w') := subseq23 vn vo old (keep a b) w hn ho
  have hl1 : old.count a ≤ old.length := List.count_le_length
  have hl2 : old.count b ≤ old.length := List.count_le_length
  obtain ⟨ad, cap, rfl, hlo, hco⟩ := ho
  obtain ⟨ad', cap', rfl, hln, hcn⟩ := hn
  clear hco hcn ca cb
  generalize (old.filter (keep a b)).length = m at *
  generalize old.count a = na at *
  generalize old.count b = nb at *
  generalize old.length = L at *
  by_cases hba : b = a
  · subst hba
    rw [if_pos rfl] at hlen
    have hm : ((m : Int) == (L : Int) - (na : Int)) = true := by simp; omega
    go_enter Try.func19, Try.ntmps19
    go_wp2_with (first
      | (go_at_call 22; refine (Cnt.out (by assumption)).mono ?_; rintro e w' ⟨rfl, hw'⟩; obtain rfl := hw'.symm)
      | (go_at_call 23; refine HK4.out.mono ?_; rintro e w9 ⟨rfl, hd⟩))
    go_ret
    exact ⟨rfl, hd⟩
  · rw [if_neg hba] at hlen
    have hb : (b == a) = false := by simpa using hba
    have hm : ((m : Int) == (L : Int) - (na : Int) - (nb : Int)) = true := by simp; omega
    go_enter Try.func19, Try.ntmps19
    go_wp2_with (first
      | (go_at_call 22; refine (Cnt.out (by assumption)).mono ?_; rintro e w' ⟨rfl, hw'⟩; obtain rfl := hw'.symm)
      | (go_at_call 23; refine HK4.out.mono ?_; rintro e w9 ⟨rfl, hd⟩))
    go_ret
    exact ⟨rfl, hd⟩

end Go.Proofs.Qxb6613898a
