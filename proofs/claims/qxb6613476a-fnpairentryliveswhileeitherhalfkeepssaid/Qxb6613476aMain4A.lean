import Derived.Test.Qxb6613476aPre
namespace Go.Proofs.Qxb6613476a
open Go.RowKit
set_option linter.unusedVariables false

set_option maxHeartbeats 2000000 in
set_option maxRecDepth 10000 in
theorem walk4_true_pd_true_tpd (kc kp : Array Value) (p n : Int) (hk : KeyOK kc kp p) (hN : Num p n) (st pa ps pu tp : Int) (sp : Bool) (pd : Bool) (tpd : Bool) (w : World) :
    Calls Try.prog 4 #[.agg kc, .int .u8 n, .int .i64 st, .int .i64 pa, .bool true, .int .i64 ps, .int .i64 pu, .bool sp, .bool pd, .bool true, .bool tpd, .int .i64 tp] w fun e w' => e = .returned (.bool true) ∧ Below w.heap.size w w' := by
  have hF := flip_num hN
  have hxor := xor_run n hN.lo hN.hi
  obtain ⟨o1, hP1⟩ : ∃ o1, Puts n ⟨st, pa, true, ps, pu, sp, pd⟩ .none o1 := ⟨_, ⟨rfl⟩⟩
  obtain ⟨o2, hP2⟩ : ∃ o2, Puts (flip n) ⟨0, tp, true, 0, 0, false, tpd⟩ o1 o2 := ⟨_, ⟨rfl⟩⟩
  obtain ⟨o3, hP3⟩ : ∃ o3, Puts n ⟨0, 0, false, 0, 0, false, false⟩ o2 o3 := ⟨_, ⟨rfl⟩⟩
  obtain ⟨o4, hP4⟩ : ∃ o4, Puts (flip n) ⟨0, 0, false, 0, 0, false, false⟩ o3 o4 := ⟨_, ⟨rfl⟩⟩
  obtain ⟨q1, q2, q3, q4, q5, q6, q7⟩ := script (bs := true) (bt := true) hN.lo rfl rfl hP1 hP2 hP3 hP4
  have r1 : Reads n o2 ⟨st, pa, true, ps, pu, sp, pd⟩ true := q1
  have r2 : Reads (flip n) o2 ⟨0, tp, true, 0, 0, false, tpd⟩ true := q2
  have r3 : Len o2 1 := q3
  have r4 : Reads (flip n) o3 ⟨0, tp, true, 0, 0, false, tpd⟩ true := q4
  have r5 : Len o3 1 := q5
  clear q1 q2 q3 q4 q5
  have hp0 := pre_start w kc
  go_enter Try.func4, Try.ntmps4
  go_wp2_with (first
    | (go_at_call 5; refine (pre_keeps (by assumption) _ _ _ _ _ _ _).mono ?_; rintro e w1 ⟨rfl, hpre⟩)
    | (go_at_call 6; refine (acc_new (kp := kp) (by assumption)).mono ?_; rintro e w2 ⟨B, M, rfl, hacc⟩)
    | (go_at_call 7; refine (acc_set hk (by assumption) (by assumption) (by assumption)).mono ?_; rintro e w3 ⟨rfl, hacc⟩)
    | (go_at_call 8; refine (acc_len (by assumption) (by assumption)).mono ?_; rintro e w' ⟨rfl, hw'⟩; obtain rfl := hw'.symm)
    | (go_at_call 9; refine (acc_win hk (by assumption) (by assumption) (by assumption)).mono ?_; rintro e w4 ⟨rfl, hacc⟩)
    | (go_at_call 10; refine (count10 _ _).mono ?_; rintro e w' ⟨rfl, hw'⟩; obtain rfl := hw'.symm)
    | (go_at_call 11; refine (zero11 _).mono ?_; rintro e w' ⟨rfl, hw'⟩; obtain rfl := hw'.symm)
    | (go_at_call 12; refine (same12 _ _ _ _ _ _ _ _).mono ?_; rintro e w' ⟨rfl, hw'⟩; obtain rfl := hw'.symm)
    | (refine wpList_load_x 22 (.pointer (some ⟨w.heap.size, 0, none⟩)) (.agg kc) rfl (loadAt_row (Sit.row (Acc.sit (w0 := w) (by assumption))) rfl Try.underlying22 16 info22 hk.size) ?_))
  go_ret
  exact ⟨rfl, Acc.bel (by assumption)⟩

set_option maxHeartbeats 2000000 in
set_option maxRecDepth 10000 in
theorem walk4_true_pd_false_true (kc kp : Array Value) (p n : Int) (hk : KeyOK kc kp p) (hN : Num p n) (st pa ps pu tp : Int) (sp : Bool) (pd : Bool) (w : World) :
    Calls Try.prog 4 #[.agg kc, .int .u8 n, .int .i64 st, .int .i64 pa, .bool true, .int .i64 ps, .int .i64 pu, .bool sp, .bool pd, .bool false, .bool true, .int .i64 tp] w fun e w' => e = .returned (.bool true) ∧ Below w.heap.size w w' := by
  have hF := flip_num hN
  have hxor := xor_run n hN.lo hN.hi
  obtain ⟨o1, hP1⟩ : ∃ o1, Puts n ⟨st, pa, true, ps, pu, sp, pd⟩ .none o1 := ⟨_, ⟨rfl⟩⟩
  obtain ⟨o2, hP2⟩ : ∃ o2, Puts (flip n) ⟨0, tp, false, 0, 0, false, true⟩ o1 o2 := ⟨_, ⟨rfl⟩⟩
  obtain ⟨o3, hP3⟩ : ∃ o3, Puts n ⟨0, 0, false, 0, 0, false, false⟩ o2 o3 := ⟨_, ⟨rfl⟩⟩
  obtain ⟨o4, hP4⟩ : ∃ o4, Puts (flip n) ⟨0, 0, false, 0, 0, false, false⟩ o3 o4 := ⟨_, ⟨rfl⟩⟩
  obtain ⟨q1, q2, q3, q4, q5, q6, q7⟩ := script (bs := true) (bt := true) hN.lo rfl rfl hP1 hP2 hP3 hP4
  have r1 : Reads n o2 ⟨st, pa, true, ps, pu, sp, pd⟩ true := q1
  have r2 : Reads (flip n) o2 ⟨0, tp, false, 0, 0, false, true⟩ true := q2
  have r3 : Len o2 1 := q3
  have r4 : Reads (flip n) o3 ⟨0, tp, false, 0, 0, false, true⟩ true := q4
  have r5 : Len o3 1 := q5
  clear q1 q2 q3 q4 q5
  have hp0 := pre_start w kc
  go_enter Try.func4, Try.ntmps4
  go_wp2_with (first
    | (go_at_call 5; refine (pre_keeps (by assumption) _ _ _ _ _ _ _).mono ?_; rintro e w1 ⟨rfl, hpre⟩)
    | (go_at_call 6; refine (acc_new (kp := kp) (by assumption)).mono ?_; rintro e w2 ⟨B, M, rfl, hacc⟩)
    | (go_at_call 7; refine (acc_set hk (by assumption) (by assumption) (by assumption)).mono ?_; rintro e w3 ⟨rfl, hacc⟩)
    | (go_at_call 8; refine (acc_len (by assumption) (by assumption)).mono ?_; rintro e w' ⟨rfl, hw'⟩; obtain rfl := hw'.symm)
    | (go_at_call 9; refine (acc_win hk (by assumption) (by assumption) (by assumption)).mono ?_; rintro e w4 ⟨rfl, hacc⟩)
    | (go_at_call 10; refine (count10 _ _).mono ?_; rintro e w' ⟨rfl, hw'⟩; obtain rfl := hw'.symm)
    | (go_at_call 11; refine (zero11 _).mono ?_; rintro e w' ⟨rfl, hw'⟩; obtain rfl := hw'.symm)
    | (go_at_call 12; refine (same12 _ _ _ _ _ _ _ _).mono ?_; rintro e w' ⟨rfl, hw'⟩; obtain rfl := hw'.symm)
    | (refine wpList_load_x 22 (.pointer (some ⟨w.heap.size, 0, none⟩)) (.agg kc) rfl (loadAt_row (Sit.row (Acc.sit (w0 := w) (by assumption))) rfl Try.underlying22 16 info22 hk.size) ?_))
  go_ret
  exact ⟨rfl, Acc.bel (by assumption)⟩

set_option maxHeartbeats 2000000 in
set_option maxRecDepth 10000 in
theorem walk4_true_pd_false_false (kc kp : Array Value) (p n : Int) (hk : KeyOK kc kp p) (hN : Num p n) (st pa ps pu tp : Int) (sp : Bool) (pd : Bool) (w : World) :
    Calls Try.prog 4 #[.agg kc, .int .u8 n, .int .i64 st, .int .i64 pa, .bool true, .int .i64 ps, .int .i64 pu, .bool sp, .bool pd, .bool false, .bool false, .int .i64 tp] w fun e w' => e = .returned (.bool true) ∧ Below w.heap.size w w' := by
  have hF := flip_num hN
  have hxor := xor_run n hN.lo hN.hi
  obtain ⟨o1, hP1⟩ : ∃ o1, Puts n ⟨st, pa, true, ps, pu, sp, pd⟩ .none o1 := ⟨_, ⟨rfl⟩⟩
  obtain ⟨o2, hP2⟩ : ∃ o2, Puts (flip n) ⟨0, tp, false, 0, 0, false, false⟩ o1 o2 := ⟨_, ⟨rfl⟩⟩
  obtain ⟨o3, hP3⟩ : ∃ o3, Puts n ⟨0, 0, false, 0, 0, false, false⟩ o2 o3 := ⟨_, ⟨rfl⟩⟩
  obtain ⟨o4, hP4⟩ : ∃ o4, Puts (flip n) ⟨0, 0, false, 0, 0, false, false⟩ o3 o4 := ⟨_, ⟨rfl⟩⟩
  obtain ⟨q1, q2, q3, q4, q5, q6, q7⟩ := script (bs := true) (bt := false) hN.lo rfl rfl hP1 hP2 hP3 hP4
  have r1 : Reads n o2 ⟨st, pa, true, ps, pu, sp, pd⟩ true := q1
  have r2 : Reads (flip n) o2 ⟨0, tp, false, 0, 0, false, false⟩ true := q2
  have r3 : Len o2 1 := q3
  have r4 : Reads (flip n) o3 ⟨0, 0, false, 0, 0, false, false⟩ false := q4
  have r5 : Len o3 0 := q5
  clear q1 q2 q3 q4 q5
  have hp0 := pre_start w kc
  go_enter Try.func4, Try.ntmps4
  go_wp2_with (first
    | (go_at_call 5; refine (pre_keeps (by assumption) _ _ _ _ _ _ _).mono ?_; rintro e w1 ⟨rfl, hpre⟩)
    | (go_at_call 6; refine (acc_new (kp := kp) (by assumption)).mono ?_; rintro e w2 ⟨B, M, rfl, hacc⟩)
    | (go_at_call 7; refine (acc_set hk (by assumption) (by assumption) (by assumption)).mono ?_; rintro e w3 ⟨rfl, hacc⟩)
    | (go_at_call 8; refine (acc_len (by assumption) (by assumption)).mono ?_; rintro e w' ⟨rfl, hw'⟩; obtain rfl := hw'.symm)
    | (go_at_call 9; refine (acc_win hk (by assumption) (by assumption) (by assumption)).mono ?_; rintro e w4 ⟨rfl, hacc⟩)
    | (go_at_call 10; refine (count10 _ _).mono ?_; rintro e w' ⟨rfl, hw'⟩; obtain rfl := hw'.symm)
    | (go_at_call 11; refine (zero11 _).mono ?_; rintro e w' ⟨rfl, hw'⟩; obtain rfl := hw'.symm)
    | (go_at_call 12; refine (same12 _ _ _ _ _ _ _ _).mono ?_; rintro e w' ⟨rfl, hw'⟩; obtain rfl := hw'.symm)
    | (refine wpList_load_x 22 (.pointer (some ⟨w.heap.size, 0, none⟩)) (.agg kc) rfl (loadAt_row (Sit.row (Acc.sit (w0 := w) (by assumption))) rfl Try.underlying22 16 info22 hk.size) ?_))
  go_ret
  exact ⟨rfl, Acc.bel (by assumption)⟩

end Go.Proofs.Qxb6613476a
