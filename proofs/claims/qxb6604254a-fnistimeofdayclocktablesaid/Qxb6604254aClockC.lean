import Derived.Test.Qxb6604254aClockB
namespace Go.Proofs.Qxb6604254a
open Go.RowKit

set_option maxRecDepth 10000 in
set_option maxHeartbeats 2000000 in
theorem plain_T_om (h mi se oh om : Int) (N : Nat) (u : Bool) (w : World) (hin : InClock h mi se (N : Int) oh om) (hfd : ¬ (0 : Int) < (N : Int)) :
    Calls Try.prog 4 #[.int .i64 h, .int .i64 mi, .int .i64 se, .int .i64 (N : Int), .bool true, .bool true, .bool true, .bool u, .int .i64 oh, .int .i64 om] w fun e w' => e = .returned (.bool true) ∧ Below w.heap.size w w' := by
  have HI := hin
  obtain ⟨⟨h1, h2⟩, ⟨h3, h4⟩, ⟨h5, h6⟩, ⟨h7, h8⟩, ⟨h9, h10⟩, h11, h12⟩ := HI
  have HX : Hid (todB [84, 48 + h / 10, 48 + h % 10, 58, 48 + mi / 10, 48 + mi % 10, 58, 48 + se / 10, 48 + se % 10, 45, 48 + oh / 10, 48 + oh % 10, 58, 48 + om / 10, 48 + om % 10].length (fun i => [84, 48 + h / 10, 48 + h % 10, 58, 48 + mi / 10, 48 + mi % 10, 58, 48 + se / 10, 48 + se % 10, 45, 48 + oh / 10, 48 + oh % 10, 58, 48 + om / 10, 48 + om % 10].getD i 0) = ((decide (h ≤ 23) && (decide (mi ≤ 59) && decide (se ≤ 60))) && (decide (oh ≤ 23) && decide (om ≤ 59)))) := by
    show _ = _
    have e1 := tod_head 84 h mi se [45, 48 + oh / 10, 48 + oh % 10, 58, 48 + om / 10, 48 + om % 10] (.inl rfl) h1 h2 h3 h4 h5 h6 (by simp)
    rw [tail_plain [45, 48 + oh / 10, 48 + oh % 10, 58, 48 + om / 10, 48 + om % 10] (by show (45 : Int) ≠ 46; decide), zone_off 45 oh om (.inr rfl) h7 h8 h9 h10] at e1
    exact e1
  have hmk := mk_rule N (by omega)
  have hB0 := BufB.start w N (by omega)
  go_enter Try.func4, Try.ntmps4
  go_wp2_with fail
  refine (clock_in h mi se _ oh om _ hin).mono ?_
  rintro e w1 ⟨rfl, rfl⟩
  clear hin
  go_wp2_with (first
    | (at_builtin; refine push rfl _ _ rfl w1 w1.heap.size _ _ _ rfl (BufB.alloc (by assumption) _) _ _ rfl (by simp; rfl) (by omega) (by omega) ?_; intro wN hN; have hconv : (convert 24 9 (.slice (some ⟨w1.heap.size, 0, none⟩) _ _)).run Try.prog wN = _ := hN.conv)
    | (go_at_call 11; refine (push2 w1 w1.heap.size _ _ _ _ _ (by omega) (by omega) (by omega) (by assumption)).mono ?_; rintro e wN ⟨rfl, hN⟩; have hconv : (convert 24 9 (.slice (some ⟨w1.heap.size, 0, none⟩) _ _)).run Try.prog wN = _ := hN.conv))
  all_goals
    have hbel := hN.1.2
    refine (zztod_eq [84, 48 + h / 10, 48 + h % 10, 58, 48 + mi / 10, 48 + mi % 10, 58, 48 + se / 10, 48 + se % 10, 45, 48 + oh / 10, 48 + oh % 10, 58, 48 + om / 10, 48 + om % 10] _ _ hN.2 (by simp) HX).mono ?_
    rintro e w2 ⟨rfl, n, rfl⟩
    clear hN hconv HX
    go_wp2
    go_ret
    exact ⟨ret_boolT (by simp; try omega), below_drewN hbel _⟩

set_option maxRecDepth 10000 in
set_option maxHeartbeats 2000000 in
theorem plain_T_op (h mi se oh om : Int) (N : Nat) (u : Bool) (w : World) (hin : InClock h mi se (N : Int) oh om) (hfd : ¬ (0 : Int) < (N : Int)) :
    Calls Try.prog 4 #[.int .i64 h, .int .i64 mi, .int .i64 se, .int .i64 (N : Int), .bool true, .bool true, .bool false, .bool u, .int .i64 oh, .int .i64 om] w fun e w' => e = .returned (.bool true) ∧ Below w.heap.size w w' := by
  have HI := hin
  obtain ⟨⟨h1, h2⟩, ⟨h3, h4⟩, ⟨h5, h6⟩, ⟨h7, h8⟩, ⟨h9, h10⟩, h11, h12⟩ := HI
  have HX : Hid (todB [84, 48 + h / 10, 48 + h % 10, 58, 48 + mi / 10, 48 + mi % 10, 58, 48 + se / 10, 48 + se % 10, 43, 48 + oh / 10, 48 + oh % 10, 58, 48 + om / 10, 48 + om % 10].length (fun i => [84, 48 + h / 10, 48 + h % 10, 58, 48 + mi / 10, 48 + mi % 10, 58, 48 + se / 10, 48 + se % 10, 43, 48 + oh / 10, 48 + oh % 10, 58, 48 + om / 10, 48 + om % 10].getD i 0) = ((decide (h ≤ 23) && (decide (mi ≤ 59) && decide (se ≤ 60))) && (decide (oh ≤ 23) && decide (om ≤ 59)))) := by
    show _ = _
    have e1 := tod_head 84 h mi se [43, 48 + oh / 10, 48 + oh % 10, 58, 48 + om / 10, 48 + om % 10] (.inl rfl) h1 h2 h3 h4 h5 h6 (by simp)
    rw [tail_plain [43, 48 + oh / 10, 48 + oh % 10, 58, 48 + om / 10, 48 + om % 10] (by show (43 : Int) ≠ 46; decide), zone_off 43 oh om (.inl rfl) h7 h8 h9 h10] at e1
    exact e1
  have hmk := mk_rule N (by omega)
  have hB0 := BufB.start w N (by omega)
  go_enter Try.func4, Try.ntmps4
  go_wp2_with fail
  refine (clock_in h mi se _ oh om _ hin).mono ?_
  rintro e w1 ⟨rfl, rfl⟩
  clear hin
  go_wp2_with (first
    | (at_builtin; refine push rfl _ _ rfl w1 w1.heap.size _ _ _ rfl (BufB.alloc (by assumption) _) _ _ rfl (by simp; rfl) (by omega) (by omega) ?_; intro wN hN; have hconv : (convert 24 9 (.slice (some ⟨w1.heap.size, 0, none⟩) _ _)).run Try.prog wN = _ := hN.conv)
    | (go_at_call 11; refine (push2 w1 w1.heap.size _ _ _ _ _ (by omega) (by omega) (by omega) (by assumption)).mono ?_; rintro e wN ⟨rfl, hN⟩; have hconv : (convert 24 9 (.slice (some ⟨w1.heap.size, 0, none⟩) _ _)).run Try.prog wN = _ := hN.conv))
  all_goals
    have hbel := hN.1.2
    refine (zztod_eq [84, 48 + h / 10, 48 + h % 10, 58, 48 + mi / 10, 48 + mi % 10, 58, 48 + se / 10, 48 + se % 10, 43, 48 + oh / 10, 48 + oh % 10, 58, 48 + om / 10, 48 + om % 10] _ _ hN.2 (by simp) HX).mono ?_
    rintro e w2 ⟨rfl, n, rfl⟩
    clear hN hconv HX
    go_wp2
    go_ret
    exact ⟨ret_boolT (by simp; try omega), below_drewN hbel _⟩

set_option maxRecDepth 10000 in
set_option maxHeartbeats 2000000 in
theorem plain_T_Z (h mi se oh om : Int) (N : Nat) (u : Bool) (w : World) (hin : InClock h mi se (N : Int) oh om) (hfd : ¬ (0 : Int) < (N : Int)) :
    Calls Try.prog 4 #[.int .i64 h, .int .i64 mi, .int .i64 se, .int .i64 (N : Int), .bool true, .bool false, .bool u, .bool true, .int .i64 oh, .int .i64 om] w fun e w' => e = .returned (.bool true) ∧ Below w.heap.size w w' := by
  have HI := hin
  obtain ⟨⟨h1, h2⟩, ⟨h3, h4⟩, ⟨h5, h6⟩, ⟨h7, h8⟩, ⟨h9, h10⟩, h11, h12⟩ := HI
  have HX : Hid (todB [84, 48 + h / 10, 48 + h % 10, 58, 48 + mi / 10, 48 + mi % 10, 58, 48 + se / 10, 48 + se % 10, 90].length (fun i => [84, 48 + h / 10, 48 + h % 10, 58, 48 + mi / 10, 48 + mi % 10, 58, 48 + se / 10, 48 + se % 10, 90].getD i 0) = ((decide (h ≤ 23) && (decide (mi ≤ 59) && decide (se ≤ 60))) && true)) := by
    show _ = _
    have e1 := tod_head 84 h mi se [90] (.inl rfl) h1 h2 h3 h4 h5 h6 (by simp)
    rw [tail_plain [90] (by show (90 : Int) ≠ 46; decide), zone_Zl] at e1
    exact e1
  have hmk := mk_rule N (by omega)
  have hB0 := BufB.start w N (by omega)
  go_enter Try.func4, Try.ntmps4
  go_wp2_with fail
  refine (clock_in h mi se _ oh om _ hin).mono ?_
  rintro e w1 ⟨rfl, rfl⟩
  clear hin
  go_wp2_with (first
    | (at_builtin; refine push rfl _ _ rfl w1 w1.heap.size _ _ _ rfl (BufB.alloc (by assumption) _) _ _ rfl (by simp; rfl) (by omega) (by omega) ?_; intro wN hN; have hconv : (convert 24 9 (.slice (some ⟨w1.heap.size, 0, none⟩) _ _)).run Try.prog wN = _ := hN.conv)
    | (go_at_call 11; refine (push2 w1 w1.heap.size _ _ _ _ _ (by omega) (by omega) (by omega) (by assumption)).mono ?_; rintro e wN ⟨rfl, hN⟩; have hconv : (convert 24 9 (.slice (some ⟨w1.heap.size, 0, none⟩) _ _)).run Try.prog wN = _ := hN.conv))
  all_goals
    have hbel := hN.1.2
    refine (zztod_eq [84, 48 + h / 10, 48 + h % 10, 58, 48 + mi / 10, 48 + mi % 10, 58, 48 + se / 10, 48 + se % 10, 90] _ _ hN.2 (by simp) HX).mono ?_
    rintro e w2 ⟨rfl, n, rfl⟩
    clear hN hconv HX
    go_wp2
    go_ret
    exact ⟨ret_boolT (by simp; try omega), below_drewN hbel _⟩

set_option maxRecDepth 10000 in
set_option maxHeartbeats 2000000 in
theorem plain_T_z (h mi se oh om : Int) (N : Nat) (u : Bool) (w : World) (hin : InClock h mi se (N : Int) oh om) (hfd : ¬ (0 : Int) < (N : Int)) :
    Calls Try.prog 4 #[.int .i64 h, .int .i64 mi, .int .i64 se, .int .i64 (N : Int), .bool true, .bool false, .bool u, .bool false, .int .i64 oh, .int .i64 om] w fun e w' => e = .returned (.bool true) ∧ Below w.heap.size w w' := by
  have HI := hin
  obtain ⟨⟨h1, h2⟩, ⟨h3, h4⟩, ⟨h5, h6⟩, ⟨h7, h8⟩, ⟨h9, h10⟩, h11, h12⟩ := HI
  have HX : Hid (todB [84, 48 + h / 10, 48 + h % 10, 58, 48 + mi / 10, 48 + mi % 10, 58, 48 + se / 10, 48 + se % 10, 122].length (fun i => [84, 48 + h / 10, 48 + h % 10, 58, 48 + mi / 10, 48 + mi % 10, 58, 48 + se / 10, 48 + se % 10, 122].getD i 0) = ((decide (h ≤ 23) && (decide (mi ≤ 59) && decide (se ≤ 60))) && true)) := by
    show _ = _
    have e1 := tod_head 84 h mi se [122] (.inl rfl) h1 h2 h3 h4 h5 h6 (by simp)
    rw [tail_plain [122] (by show (122 : Int) ≠ 46; decide), zone_zl] at e1
    exact e1
  have hmk := mk_rule N (by omega)
  have hB0 := BufB.start w N (by omega)
  go_enter Try.func4, Try.ntmps4
  go_wp2_with fail
  refine (clock_in h mi se _ oh om _ hin).mono ?_
  rintro e w1 ⟨rfl, rfl⟩
  clear hin
  go_wp2_with (first
    | (at_builtin; refine push rfl _ _ rfl w1 w1.heap.size _ _ _ rfl (BufB.alloc (by assumption) _) _ _ rfl (by simp; rfl) (by omega) (by omega) ?_; intro wN hN; have hconv : (convert 24 9 (.slice (some ⟨w1.heap.size, 0, none⟩) _ _)).run Try.prog wN = _ := hN.conv)
    | (go_at_call 11; refine (push2 w1 w1.heap.size _ _ _ _ _ (by omega) (by omega) (by omega) (by assumption)).mono ?_; rintro e wN ⟨rfl, hN⟩; have hconv : (convert 24 9 (.slice (some ⟨w1.heap.size, 0, none⟩) _ _)).run Try.prog wN = _ := hN.conv))
  all_goals
    have hbel := hN.1.2
    refine (zztod_eq [84, 48 + h / 10, 48 + h % 10, 58, 48 + mi / 10, 48 + mi % 10, 58, 48 + se / 10, 48 + se % 10, 122] _ _ hN.2 (by simp) HX).mono ?_
    rintro e w2 ⟨rfl, n, rfl⟩
    clear hN hconv HX
    go_wp2
    go_ret
    exact ⟨ret_boolT (by simp; try omega), below_drewN hbel _⟩

set_option maxRecDepth 10000 in
set_option maxHeartbeats 2000000 in
theorem plain_t_om (h mi se oh om : Int) (N : Nat) (u : Bool) (w : World) (hin : InClock h mi se (N : Int) oh om) (hfd : ¬ (0 : Int) < (N : Int)) :
    Calls Try.prog 4 #[.int .i64 h, .int .i64 mi, .int .i64 se, .int .i64 (N : Int), .bool false, .bool true, .bool true, .bool u, .int .i64 oh, .int .i64 om] w fun e w' => e = .returned (.bool true) ∧ Below w.heap.size w w' := by
  have HI := hin
  obtain ⟨⟨h1, h2⟩, ⟨h3, h4⟩, ⟨h5, h6⟩, ⟨h7, h8⟩, ⟨h9, h10⟩, h11, h12⟩ := HI
  have HX : Hid (todB [116, 48 + h / 10, 48 + h % 10, 58, 48 + mi / 10, 48 + mi % 10, 58, 48 + se / 10, 48 + se % 10, 45, 48 + oh / 10, 48 + oh % 10, 58, 48 + om / 10, 48 + om % 10].length (fun i => [116, 48 + h / 10, 48 + h % 10, 58, 48 + mi / 10, 48 + mi % 10, 58, 48 + se / 10, 48 + se % 10, 45, 48 + oh / 10, 48 + oh % 10, 58, 48 + om / 10, 48 + om % 10].getD i 0) = ((decide (h ≤ 23) && (decide (mi ≤ 59) && decide (se ≤ 60))) && (decide (oh ≤ 23) && decide (om ≤ 59)))) := by
    show _ = _
    have e1 := tod_head 116 h mi se [45, 48 + oh / 10, 48 + oh % 10, 58, 48 + om / 10, 48 + om % 10] (.inr rfl) h1 h2 h3 h4 h5 h6 (by simp)
    rw [tail_plain [45, 48 + oh / 10, 48 + oh % 10, 58, 48 + om / 10, 48 + om % 10] (by show (45 : Int) ≠ 46; decide), zone_off 45 oh om (.inr rfl) h7 h8 h9 h10] at e1
    exact e1
  have hmk := mk_rule N (by omega)
  have hB0 := BufB.start w N (by omega)
  go_enter Try.func4, Try.ntmps4
  go_wp2_with fail
  refine (clock_in h mi se _ oh om _ hin).mono ?_
  rintro e w1 ⟨rfl, rfl⟩
  clear hin
  go_wp2_with (first
    | (at_builtin; refine push rfl _ _ rfl w1 w1.heap.size _ _ _ rfl (BufB.alloc (by assumption) _) _ _ rfl (by simp; rfl) (by omega) (by omega) ?_; intro wN hN; have hconv : (convert 24 9 (.slice (some ⟨w1.heap.size, 0, none⟩) _ _)).run Try.prog wN = _ := hN.conv)
    | (go_at_call 11; refine (push2 w1 w1.heap.size _ _ _ _ _ (by omega) (by omega) (by omega) (by assumption)).mono ?_; rintro e wN ⟨rfl, hN⟩; have hconv : (convert 24 9 (.slice (some ⟨w1.heap.size, 0, none⟩) _ _)).run Try.prog wN = _ := hN.conv))
  all_goals
    have hbel := hN.1.2
    refine (zztod_eq [116, 48 + h / 10, 48 + h % 10, 58, 48 + mi / 10, 48 + mi % 10, 58, 48 + se / 10, 48 + se % 10, 45, 48 + oh / 10, 48 + oh % 10, 58, 48 + om / 10, 48 + om % 10] _ _ hN.2 (by simp) HX).mono ?_
    rintro e w2 ⟨rfl, n, rfl⟩
    clear hN hconv HX
    go_wp2
    go_ret
    exact ⟨ret_boolT (by simp; try omega), below_drewN hbel _⟩

set_option maxRecDepth 10000 in
set_option maxHeartbeats 2000000 in
theorem plain_t_op (h mi se oh om : Int) (N : Nat) (u : Bool) (w : World) (hin : InClock h mi se (N : Int) oh om) (hfd : ¬ (0 : Int) < (N : Int)) :
    Calls Try.prog 4 #[.int .i64 h, .int .i64 mi, .int .i64 se, .int .i64 (N : Int), .bool false, .bool true, .bool false, .bool u, .int .i64 oh, .int .i64 om] w fun e w' => e = .returned (.bool true) ∧ Below w.heap.size w w' := by
  have HI := hin
  obtain ⟨⟨h1, h2⟩, ⟨h3, h4⟩, ⟨h5, h6⟩, ⟨h7, h8⟩, ⟨h9, h10⟩, h11, h12⟩ := HI
  have HX : Hid (todB [116, 48 + h / 10, 48 + h % 10, 58, 48 + mi / 10, 48 + mi % 10, 58, 48 + se / 10, 48 + se % 10, 43, 48 + oh / 10, 48 + oh % 10, 58, 48 + om / 10, 48 + om % 10].length (fun i => [116, 48 + h / 10, 48 + h % 10, 58, 48 + mi / 10, 48 + mi % 10, 58, 48 + se / 10, 48 + se % 10, 43, 48 + oh / 10, 48 + oh % 10, 58, 48 + om / 10, 48 + om % 10].getD i 0) = ((decide (h ≤ 23) && (decide (mi ≤ 59) && decide (se ≤ 60))) && (decide (oh ≤ 23) && decide (om ≤ 59)))) := by
    show _ = _
    have e1 := tod_head 116 h mi se [43, 48 + oh / 10, 48 + oh % 10, 58, 48 + om / 10, 48 + om % 10] (.inr rfl) h1 h2 h3 h4 h5 h6 (by simp)
    rw [tail_plain [43, 48 + oh / 10, 48 + oh % 10, 58, 48 + om / 10, 48 + om % 10] (by show (43 : Int) ≠ 46; decide), zone_off 43 oh om (.inl rfl) h7 h8 h9 h10] at e1
    exact e1
  have hmk := mk_rule N (by omega)
  have hB0 := BufB.start w N (by omega)
  go_enter Try.func4, Try.ntmps4
  go_wp2_with fail
  refine (clock_in h mi se _ oh om _ hin).mono ?_
  rintro e w1 ⟨rfl, rfl⟩
  clear hin
  go_wp2_with (first
    | (at_builtin; refine push rfl _ _ rfl w1 w1.heap.size _ _ _ rfl (BufB.alloc (by assumption) _) _ _ rfl (by simp; rfl) (by omega) (by omega) ?_; intro wN hN; have hconv : (convert 24 9 (.slice (some ⟨w1.heap.size, 0, none⟩) _ _)).run Try.prog wN = _ := hN.conv)
    | (go_at_call 11; refine (push2 w1 w1.heap.size _ _ _ _ _ (by omega) (by omega) (by omega) (by assumption)).mono ?_; rintro e wN ⟨rfl, hN⟩; have hconv : (convert 24 9 (.slice (some ⟨w1.heap.size, 0, none⟩) _ _)).run Try.prog wN = _ := hN.conv))
  all_goals
    have hbel := hN.1.2
    refine (zztod_eq [116, 48 + h / 10, 48 + h % 10, 58, 48 + mi / 10, 48 + mi % 10, 58, 48 + se / 10, 48 + se % 10, 43, 48 + oh / 10, 48 + oh % 10, 58, 48 + om / 10, 48 + om % 10] _ _ hN.2 (by simp) HX).mono ?_
    rintro e w2 ⟨rfl, n, rfl⟩
    clear hN hconv HX
    go_wp2
    go_ret
    exact ⟨ret_boolT (by simp; try omega), below_drewN hbel _⟩

set_option maxRecDepth 10000 in
set_option maxHeartbeats 2000000 in
theorem plain_t_Z (h mi se oh om : Int) (N : Nat) (u : Bool) (w : World) (hin : InClock h mi se (N : Int) oh om) (hfd : ¬ (0 : Int) < (N : Int)) :
    Calls Try.prog 4 #[.int .i64 h, .int .i64 mi, .int .i64 se, .int .i64 (N : Int), .bool false, .bool false, .bool u, .bool true, .int .i64 oh, .int .i64 om] w fun e w' => e = .returned (.bool true) ∧ Below w.heap.size w w' := by
  have HI := hin
  obtain ⟨⟨h1, h2⟩, ⟨h3, h4⟩, ⟨h5, h6⟩, ⟨h7, h8⟩, ⟨h9, h10⟩, h11, h12⟩ := HI
  have HX : Hid (todB [116, 48 + h / 10, 48 + h % 10, 58, 48 + mi / 10, 48 + mi % 10, 58, 48 + se / 10, 48 + se % 10, 90].length (fun i => [116, 48 + h / 10, 48 + h % 10, 58, 48 + mi / 10, 48 + mi % 10, 58, 48 + se / 10, 48 + se % 10, 90].getD i 0) = ((decide (h ≤ 23) && (decide (mi ≤ 59) && decide (se ≤ 60))) && true)) := by
    show _ = _
    have e1 := tod_head 116 h mi se [90] (.inr rfl) h1 h2 h3 h4 h5 h6 (by simp)
    rw [tail_plain [90] (by show (90 : Int) ≠ 46; decide), zone_Zl] at e1
    exact e1
  have hmk := mk_rule N (by omega)
  have hB0 := BufB.start w N (by omega)
  go_enter Try.func4, Try.ntmps4
  go_wp2_with fail
  refine (clock_in h mi se _ oh om _ hin).mono ?_
  rintro e w1 ⟨rfl, rfl⟩
  clear hin
  go_wp2_with (first
    | (at_builtin; refine push rfl _ _ rfl w1 w1.heap.size _ _ _ rfl (BufB.alloc (by assumption) _) _ _ rfl (by simp; rfl) (by omega) (by omega) ?_; intro wN hN; have hconv : (convert 24 9 (.slice (some ⟨w1.heap.size, 0, none⟩) _ _)).run Try.prog wN = _ := hN.conv)
    | (go_at_call 11; refine (push2 w1 w1.heap.size _ _ _ _ _ (by omega) (by omega) (by omega) (by assumption)).mono ?_; rintro e wN ⟨rfl, hN⟩; have hconv : (convert 24 9 (.slice (some ⟨w1.heap.size, 0, none⟩) _ _)).run Try.prog wN = _ := hN.conv))
  all_goals
    have hbel := hN.1.2
    refine (zztod_eq [116, 48 + h / 10, 48 + h % 10, 58, 48 + mi / 10, 48 + mi % 10, 58, 48 + se / 10, 48 + se % 10, 90] _ _ hN.2 (by simp) HX).mono ?_
    rintro e w2 ⟨rfl, n, rfl⟩
    clear hN hconv HX
    go_wp2
    go_ret
    exact ⟨ret_boolT (by simp; try omega), below_drewN hbel _⟩

set_option maxRecDepth 10000 in
set_option maxHeartbeats 2000000 in
theorem plain_t_z (h mi se oh om : Int) (N : Nat) (u : Bool) (w : World) (hin : InClock h mi se (N : Int) oh om) (hfd : ¬ (0 : Int) < (N : Int)) :
    Calls Try.prog 4 #[.int .i64 h, .int .i64 mi, .int .i64 se, .int .i64 (N : Int), .bool false, .bool false, .bool u, .bool false, .int .i64 oh, .int .i64 om] w fun e w' => e = .returned (.bool true) ∧ Below w.heap.size w w' := by
  have HI := hin
  obtain ⟨⟨h1, h2⟩, ⟨h3, h4⟩, ⟨h5, h6⟩, ⟨h7, h8⟩, ⟨h9, h10⟩, h11, h12⟩ := HI
  have HX : Hid (todB [116, 48 + h / 10, 48 + h % 10, 58, 48 + mi / 10, 48 + mi % 10, 58, 48 + se / 10, 48 + se % 10, 122].length (fun i => [116, 48 + h / 10, 48 + h % 10, 58, 48 + mi / 10, 48 + mi % 10, 58, 48 + se / 10, 48 + se % 10, 122].getD i 0) = ((decide (h ≤ 23) && (decide (mi ≤ 59) && decide (se ≤ 60))) && true)) := by
    show _ = _
    have e1 := tod_head 116 h mi se [122] (.inr rfl) h1 h2 h3 h4 h5 h6 (by simp)
    rw [tail_plain [122] (by show (122 : Int) ≠ 46; decide), zone_zl] at e1
    exact e1
  have hmk := mk_rule N (by omega)
  have hB0 := BufB.start w N (by omega)
  go_enter Try.func4, Try.ntmps4
  go_wp2_with fail
  refine (clock_in h mi se _ oh om _ hin).mono ?_
  rintro e w1 ⟨rfl, rfl⟩
  clear hin
  go_wp2_with (first
    | (at_builtin; refine push rfl _ _ rfl w1 w1.heap.size _ _ _ rfl (BufB.alloc (by assumption) _) _ _ rfl (by simp; rfl) (by omega) (by omega) ?_; intro wN hN; have hconv : (convert 24 9 (.slice (some ⟨w1.heap.size, 0, none⟩) _ _)).run Try.prog wN = _ := hN.conv)
    | (go_at_call 11; refine (push2 w1 w1.heap.size _ _ _ _ _ (by omega) (by omega) (by omega) (by assumption)).mono ?_; rintro e wN ⟨rfl, hN⟩; have hconv : (convert 24 9 (.slice (some ⟨w1.heap.size, 0, none⟩) _ _)).run Try.prog wN = _ := hN.conv))
  all_goals
    have hbel := hN.1.2
    refine (zztod_eq [116, 48 + h / 10, 48 + h % 10, 58, 48 + mi / 10, 48 + mi % 10, 58, 48 + se / 10, 48 + se % 10, 122] _ _ hN.2 (by simp) HX).mono ?_
    rintro e w2 ⟨rfl, n, rfl⟩
    clear hN hconv HX
    go_wp2
    go_ret
    exact ⟨ret_boolT (by simp; try omega), below_drewN hbel _⟩

end Go.Proofs.Qxb6604254a
