import Derived.Test.Qxb6613476aKey
namespace Go.Proofs.Qxb6613476a
open Go.RowKit
set_option linter.unusedVariables false

theorem mod_two (n : Int) : n % 2 = 0 ∨ n % 2 = 1 := by omega
theorem keeps_zero : WS.zero.keeps = false := rfl
theorem reads_kept {n : Int} {s : WS} {o1 : Option (WS × WS)} (hP : Puts n s .none o1) (hk : s.keeps = true) : Reads n o1 s true := by
  have := hP.out
  subst this
  rcases mod_two n with h | h <;> constructor <;> simp [h, put, half, hk]
theorem reads_lost {n : Int} {s : WS} {o1 : Option (WS × WS)} (hP : Puts n s .none o1) (hk : s.keeps = false) : Reads n o1 ⟨0, 0, false, 0, 0, false, false⟩ false := by
  have := hP.out
  subst this
  rcases mod_two n with h | h <;> constructor <;> simp [h, put, half, hk, keeps_zero] <;> rfl
theorem reads_other {n : Int} {s : WS} {o1 : Option (WS × WS)} {b : Bool} (hn : 0 ≤ n) (hP : Puts n s .none o1) (hk : s.keeps = b) : Reads (flip n) o1 ⟨0, 0, false, 0, 0, false, false⟩ b := by
  have := hP.out
  subst this
  have hf := flip_mod n hn
  subst hk
  rcases mod_two n with h | h <;> constructor <;> simp [h, hf, put, half, keeps_zero] <;> (try split) <;> first | rfl | simp_all
theorem len_of {n : Int} {s : WS} {o1 : Option (WS × WS)} (hP : Puts n s .none o1) (b : Bool) (hk : s.keeps = b) : (if b then (1 : Int) else 0) = if o1.isSome then 1 else 0 := by
  have := hP.out
  subst this
  subst hk
  rcases mod_two n with h | h <;> simp [h, put, keeps_zero] <;> cases s.keeps <;> rfl

set_option maxHeartbeats 1000000 in
set_option maxRecDepth 10000 in
theorem walk3_false_false (kc kp : Array Value) (p n : Int) (hk : KeyOK kc kp p) (hN : Num p n) (st pa ps pu : Int) (sp : Bool) (w : World) :
    Calls Try.prog 3 #[.agg kc, .int .u8 n, .int .i64 st, .int .i64 pa, .bool false, .int .i64 ps, .int .i64 pu, .bool sp, .bool false] w fun e w' => e = .returned (.bool true) ∧ Below w.heap.size w w' := by
  have hF := flip_num hN
  have hxor := xor_run n hN.lo hN.hi
  obtain ⟨o1, hP⟩ : ∃ o1, Puts n ⟨st, pa, false, ps, pu, sp, false⟩ .none o1 := ⟨_, ⟨rfl⟩⟩
  have hR : Reads n o1 ⟨0, 0, false, 0, 0, false, false⟩ false := reads_lost hP rfl
  have hO : Reads (flip n) o1 ⟨0, 0, false, 0, 0, false, false⟩ false := reads_other hN.lo hP rfl
  have HZ : Hid ((0 : Int) = if o1.isSome then 1 else 0) := len_of hP false rfl
  go_enter Try.func3, Try.ntmps3
  go_wp2_with (first
    | (go_at_call 5; refine (export5 _ _ _ _ _ _ _ _).mono ?_; rintro e w1 ⟨rfl, hb1⟩; have HB1 : Hid (Below (w.alloc (.cells kc 22)).heap.size (w.alloc (.cells kc 22)) w1) := hb1; clear hb1)
    | (go_at_call 6; refine (new6' w.heap.size kc kp w1 ((HB1.out.block _ (by simp)).trans (heap_alloc_last _ _))).mono ?_; rintro e w2 ⟨B, M, rfl, hS2, hM2, hb2⟩; have HB2 : Hid (Below w1.heap.size w1 w2) := hb2; have HM2 : Hid (w1.heap.size ≤ M) := hM2; clear hb2 hM2)
    | (go_at_call 7; refine (hk.set n ⟨st, pa, false, ps, pu, sp, false⟩ .none o1 w.heap.size B M w2 hN hP hS2).mono ?_; rintro e w3 ⟨rfl, hS3, hg3⟩; have HG3 : Hid (w2.grownBy w3 (some M)) := hg3; clear hg3)
    | (go_at_call 8; refine (len8' w.heap.size B M kc kp o1 w3 hS3 0 HZ.out).mono ?_; rintro e w' ⟨rfl, hw'⟩; obtain rfl := hw'.symm)
    | (go_at_call 9; refine (hk.win _ o1 _ _ w.heap.size B M _ (by assumption) (by assumption) (by assumption)).mono ?_; first | (rintro e w4 ⟨rfl, hS4, hb4⟩; have HB4 : Hid (Below w3.heap.size w3 w4) := hb4; clear hb4) | (rintro e w5 ⟨rfl, hS5, hb5⟩; have HB5 : Hid (Below w4.heap.size w4 w5) := hb5; clear hb5))
    | (go_at_call 10; refine (count10 _ _).mono ?_; rintro e w' ⟨rfl, hw'⟩; obtain rfl := hw'.symm)
    | (go_at_call 11; refine (zero11 _).mono ?_; rintro e w' ⟨rfl, hw'⟩; obtain rfl := hw'.symm)
    | (go_at_call 12; refine (same12 _ _ _ _ _ _ _ _).mono ?_; rintro e w' ⟨rfl, hw'⟩; obtain rfl := hw'.symm)
    | (refine wpList_load_x 22 (.pointer (some ⟨w.heap.size, 0, none⟩)) (.agg kc) rfl (loadAt_row (Sit.row (by assumption)) rfl Try.underlying22 16 info22 hk.size) ?_))
  go_ret
  refine ⟨rfl, ?_⟩
  have s1 := HB1.out.size
  have s2 := HB2.out.size
  have s3 := HG3.out.size
  have s4 := HB4.out.size
  simp at s1
  have c1 : Below w.heap.size w w1 := ((Below.refl _ _).alloc (Nat.le_refl _) _).trans (HB1.out.mono (by simp))
  have c2 := c1.trans (HB2.out.mono (by omega))
  have c3 := c2.grown HG3.out (by omega) (fun k hk => by have := HM2.out; cases hk; omega)
  exact (c3.trans (HB4.out.mono (by omega))).trans (HB5.out.mono (by omega))

set_option maxHeartbeats 1000000 in
set_option maxRecDepth 10000 in
theorem walk3_false_true (kc kp : Array Value) (p n : Int) (hk : KeyOK kc kp p) (hN : Num p n) (st pa ps pu : Int) (sp : Bool) (w : World) :
    Calls Try.prog 3 #[.agg kc, .int .u8 n, .int .i64 st, .int .i64 pa, .bool false, .int .i64 ps, .int .i64 pu, .bool sp, .bool true] w fun e w' => e = .returned (.bool true) ∧ Below w.heap.size w w' := by
  have hF := flip_num hN
  have hxor := xor_run n hN.lo hN.hi
  obtain ⟨o1, hP⟩ : ∃ o1, Puts n ⟨st, pa, false, ps, pu, sp, true⟩ .none o1 := ⟨_, ⟨rfl⟩⟩
  have hR : Reads n o1 ⟨st, pa, false, ps, pu, sp, true⟩ true := reads_kept hP rfl
  have hO : Reads (flip n) o1 ⟨0, 0, false, 0, 0, false, false⟩ true := reads_other hN.lo hP rfl
  have HZ : Hid ((1 : Int) = if o1.isSome then 1 else 0) := len_of hP true rfl
  go_enter Try.func3, Try.ntmps3
  go_wp2_with (first
    | (go_at_call 5; refine (export5 _ _ _ _ _ _ _ _).mono ?_; rintro e w1 ⟨rfl, hb1⟩; have HB1 : Hid (Below (w.alloc (.cells kc 22)).heap.size (w.alloc (.cells kc 22)) w1) := hb1; clear hb1)
    | (go_at_call 6; refine (new6' w.heap.size kc kp w1 ((HB1.out.block _ (by simp)).trans (heap_alloc_last _ _))).mono ?_; rintro e w2 ⟨B, M, rfl, hS2, hM2, hb2⟩; have HB2 : Hid (Below w1.heap.size w1 w2) := hb2; have HM2 : Hid (w1.heap.size ≤ M) := hM2; clear hb2 hM2)
    | (go_at_call 7; refine (hk.set n ⟨st, pa, false, ps, pu, sp, true⟩ .none o1 w.heap.size B M w2 hN hP hS2).mono ?_; rintro e w3 ⟨rfl, hS3, hg3⟩; have HG3 : Hid (w2.grownBy w3 (some M)) := hg3; clear hg3)
    | (go_at_call 8; refine (len8' w.heap.size B M kc kp o1 w3 hS3 1 HZ.out).mono ?_; rintro e w' ⟨rfl, hw'⟩; obtain rfl := hw'.symm)
    | (go_at_call 9; refine (hk.win _ o1 _ _ w.heap.size B M _ (by assumption) (by assumption) (by assumption)).mono ?_; first | (rintro e w4 ⟨rfl, hS4, hb4⟩; have HB4 : Hid (Below w3.heap.size w3 w4) := hb4; clear hb4) | (rintro e w5 ⟨rfl, hS5, hb5⟩; have HB5 : Hid (Below w4.heap.size w4 w5) := hb5; clear hb5))
    | (go_at_call 10; refine (count10 _ _).mono ?_; rintro e w' ⟨rfl, hw'⟩; obtain rfl := hw'.symm)
    | (go_at_call 11; refine (zero11 _).mono ?_; rintro e w' ⟨rfl, hw'⟩; obtain rfl := hw'.symm)
    | (go_at_call 12; refine (same12 _ _ _ _ _ _ _ _).mono ?_; rintro e w' ⟨rfl, hw'⟩; obtain rfl := hw'.symm)
    | (refine wpList_load_x 22 (.pointer (some ⟨w.heap.size, 0, none⟩)) (.agg kc) rfl (loadAt_row (Sit.row (by assumption)) rfl Try.underlying22 16 info22 hk.size) ?_))
  go_ret
  refine ⟨rfl, ?_⟩
  have s1 := HB1.out.size
  have s2 := HB2.out.size
  have s3 := HG3.out.size
  have s4 := HB4.out.size
  simp at s1
  have c1 : Below w.heap.size w w1 := ((Below.refl _ _).alloc (Nat.le_refl _) _).trans (HB1.out.mono (by simp))
  have c2 := c1.trans (HB2.out.mono (by omega))
  have c3 := c2.grown HG3.out (by omega) (fun k hk => by have := HM2.out; cases hk; omega)
  exact (c3.trans (HB4.out.mono (by omega))).trans (HB5.out.mono (by omega))

set_option maxHeartbeats 1000000 in
set_option maxRecDepth 10000 in
theorem walk3_true_false (kc kp : Array Value) (p n : Int) (hk : KeyOK kc kp p) (hN : Num p n) (st pa ps pu : Int) (sp : Bool) (w : World) :
    Calls Try.prog 3 #[.agg kc, .int .u8 n, .int .i64 st, .int .i64 pa, .bool true, .int .i64 ps, .int .i64 pu, .bool sp, .bool false] w fun e w' => e = .returned (.bool true) ∧ Below w.heap.size w w' := by
  have hF := flip_num hN
  have hxor := xor_run n hN.lo hN.hi
  obtain ⟨o1, hP⟩ : ∃ o1, Puts n ⟨st, pa, true, ps, pu, sp, false⟩ .none o1 := ⟨_, ⟨rfl⟩⟩
  have hR : Reads n o1 ⟨st, pa, true, ps, pu, sp, false⟩ true := reads_kept hP rfl
  have hO : Reads (flip n) o1 ⟨0, 0, false, 0, 0, false, false⟩ true := reads_other hN.lo hP rfl
  have HZ : Hid ((1 : Int) = if o1.isSome then 1 else 0) := len_of hP true rfl
  go_enter Try.func3, Try.ntmps3
  go_wp2_with (first
    | (go_at_call 5; refine (export5 _ _ _ _ _ _ _ _).mono ?_; rintro e w1 ⟨rfl, hb1⟩; have HB1 : Hid (Below (w.alloc (.cells kc 22)).heap.size (w.alloc (.cells kc 22)) w1) := hb1; clear hb1)
    | (go_at_call 6; refine (new6' w.heap.size kc kp w1 ((HB1.out.block _ (by simp)).trans (heap_alloc_last _ _))).mono ?_; rintro e w2 ⟨B, M, rfl, hS2, hM2, hb2⟩; have HB2 : Hid (Below w1.heap.size w1 w2) := hb2; have HM2 : Hid (w1.heap.size ≤ M) := hM2; clear hb2 hM2)
    | (go_at_call 7; refine (hk.set n ⟨st, pa, true, ps, pu, sp, false⟩ .none o1 w.heap.size B M w2 hN hP hS2).mono ?_; rintro e w3 ⟨rfl, hS3, hg3⟩; have HG3 : Hid (w2.grownBy w3 (some M)) := hg3; clear hg3)
    | (go_at_call 8; refine (len8' w.heap.size B M kc kp o1 w3 hS3 1 HZ.out).mono ?_; rintro e w' ⟨rfl, hw'⟩; obtain rfl := hw'.symm)
    | (go_at_call 9; refine (hk.win _ o1 _ _ w.heap.size B M _ (by assumption) (by assumption) (by assumption)).mono ?_; first | (rintro e w4 ⟨rfl, hS4, hb4⟩; have HB4 : Hid (Below w3.heap.size w3 w4) := hb4; clear hb4) | (rintro e w5 ⟨rfl, hS5, hb5⟩; have HB5 : Hid (Below w4.heap.size w4 w5) := hb5; clear hb5))
    | (go_at_call 10; refine (count10 _ _).mono ?_; rintro e w' ⟨rfl, hw'⟩; obtain rfl := hw'.symm)
    | (go_at_call 11; refine (zero11 _).mono ?_; rintro e w' ⟨rfl, hw'⟩; obtain rfl := hw'.symm)
    | (go_at_call 12; refine (same12 _ _ _ _ _ _ _ _).mono ?_; rintro e w' ⟨rfl, hw'⟩; obtain rfl := hw'.symm)
    | (refine wpList_load_x 22 (.pointer (some ⟨w.heap.size, 0, none⟩)) (.agg kc) rfl (loadAt_row (Sit.row (by assumption)) rfl Try.underlying22 16 info22 hk.size) ?_))
  go_ret
  refine ⟨rfl, ?_⟩
  have s1 := HB1.out.size
  have s2 := HB2.out.size
  have s3 := HG3.out.size
  have s4 := HB4.out.size
  simp at s1
  have c1 : Below w.heap.size w w1 := ((Below.refl _ _).alloc (Nat.le_refl _) _).trans (HB1.out.mono (by simp))
  have c2 := c1.trans (HB2.out.mono (by omega))
  have c3 := c2.grown HG3.out (by omega) (fun k hk => by have := HM2.out; cases hk; omega)
  exact (c3.trans (HB4.out.mono (by omega))).trans (HB5.out.mono (by omega))

set_option maxHeartbeats 1000000 in
set_option maxRecDepth 10000 in
theorem walk3_true_true (kc kp : Array Value) (p n : Int) (hk : KeyOK kc kp p) (hN : Num p n) (st pa ps pu : Int) (sp : Bool) (w : World) :
    Calls Try.prog 3 #[.agg kc, .int .u8 n, .int .i64 st, .int .i64 pa, .bool true, .int .i64 ps, .int .i64 pu, .bool sp, .bool true] w fun e w' => e = .returned (.bool true) ∧ Below w.heap.size w w' := by
  have hF := flip_num hN
  have hxor := xor_run n hN.lo hN.hi
  obtain ⟨o1, hP⟩ : ∃ o1, Puts n ⟨st, pa, true, ps, pu, sp, true⟩ .none o1 := ⟨_, ⟨rfl⟩⟩
  have hR : Reads n o1 ⟨st, pa, true, ps, pu, sp, true⟩ true := reads_kept hP rfl
  have hO : Reads (flip n) o1 ⟨0, 0, false, 0, 0, false, false⟩ true := reads_other hN.lo hP rfl
  have HZ : Hid ((1 : Int) = if o1.isSome then 1 else 0) := len_of hP true rfl
  go_enter Try.func3, Try.ntmps3
  go_wp2_with (first
    | (go_at_call 5; refine (export5 _ _ _ _ _ _ _ _).mono ?_; rintro e w1 ⟨rfl, hb1⟩; have HB1 : Hid (Below (w.alloc (.cells kc 22)).heap.size (w.alloc (.cells kc 22)) w1) := hb1; clear hb1)
    | (go_at_call 6; refine (new6' w.heap.size kc kp w1 ((HB1.out.block _ (by simp)).trans (heap_alloc_last _ _))).mono ?_; rintro e w2 ⟨B, M, rfl, hS2, hM2, hb2⟩; have HB2 : Hid (Below w1.heap.size w1 w2) := hb2; have HM2 : Hid (w1.heap.size ≤ M) := hM2; clear hb2 hM2)
    | (go_at_call 7; refine (hk.set n ⟨st, pa, true, ps, pu, sp, true⟩ .none o1 w.heap.size B M w2 hN hP hS2).mono ?_; rintro e w3 ⟨rfl, hS3, hg3⟩; have HG3 : Hid (w2.grownBy w3 (some M)) := hg3; clear hg3)
    | (go_at_call 8; refine (len8' w.heap.size B M kc kp o1 w3 hS3 1 HZ.out).mono ?_; rintro e w' ⟨rfl, hw'⟩; obtain rfl := hw'.symm)
    | (go_at_call 9; refine (hk.win _ o1 _ _ w.heap.size B M _ (by assumption) (by assumption) (by assumption)).mono ?_; first | (rintro e w4 ⟨rfl, hS4, hb4⟩; have HB4 : Hid (Below w3.heap.size w3 w4) := hb4; clear hb4) | (rintro e w5 ⟨rfl, hS5, hb5⟩; have HB5 : Hid (Below w4.heap.size w4 w5) := hb5; clear hb5))
    | (go_at_call 10; refine (count10 _ _).mono ?_; rintro e w' ⟨rfl, hw'⟩; obtain rfl := hw'.symm)
    | (go_at_call 11; refine (zero11 _).mono ?_; rintro e w' ⟨rfl, hw'⟩; obtain rfl := hw'.symm)
    | (go_at_call 12; refine (same12 _ _ _ _ _ _ _ _).mono ?_; rintro e w' ⟨rfl, hw'⟩; obtain rfl := hw'.symm)
    | (refine wpList_load_x 22 (.pointer (some ⟨w.heap.size, 0, none⟩)) (.agg kc) rfl (loadAt_row (Sit.row (by assumption)) rfl Try.underlying22 16 info22 hk.size) ?_))
  go_ret
  refine ⟨rfl, ?_⟩
  have s1 := HB1.out.size
  have s2 := HB2.out.size
  have s3 := HG3.out.size
  have s4 := HB4.out.size
  simp at s1
  have c1 : Below w.heap.size w w1 := ((Below.refl _ _).alloc (Nat.le_refl _) _).trans (HB1.out.mono (by simp))
  have c2 := c1.trans (HB2.out.mono (by omega))
  have c3 := c2.grown HG3.out (by omega) (fun k hk => by have := HM2.out; cases hk; omega)
  exact (c3.trans (HB4.out.mono (by omega))).trans (HB5.out.mono (by omega))

end Go.Proofs.Qxb6613476a
