import Derived.Test.Qxb6604254aClockB
namespace Go.Proofs.Qxb6604254a
open Go.RowKit

set_option maxRecDepth 10000 in
set_option maxHeartbeats 2000000 in
theorem frac_T_om (h mi se oh om : Int) (N : Nat) (u : Bool) (w : World) (hin : InClock h mi se (N : Int) oh om) (hfd : (0 : Int) < (N : Int)) :
    Calls Try.prog 4 #[.int .i64 h, .int .i64 mi, .int .i64 se, .int .i64 (N : Int), .bool true, .bool true, .bool true, .bool u, .int .i64 oh, .int .i64 om] w fun e w' => e = .returned (.bool true) ∧ Below w.heap.size w w' := by
  have HI := hin
  obtain ⟨⟨h1, h2⟩, ⟨h3, h4⟩, ⟨h5, h6⟩, ⟨h7, h8⟩, ⟨h9, h10⟩, h11, h12⟩ := HI
  have HX : Hid (todB (hd 84 h mi se ++ 46 :: (digs N ++ [45, 48 + oh / 10, 48 + oh % 10, 58, 48 + om / 10, 48 + om % 10])).length (fun i => (hd 84 h mi se ++ 46 :: (digs N ++ [45, 48 + oh / 10, 48 + oh % 10, 58, 48 + om / 10, 48 + om % 10])).getD i 0) = ((decide (h ≤ 23) && (decide (mi ≤ 59) && decide (se ≤ 60))) && (decide (oh ≤ 23) && decide (om ≤ 59)))) := by
    show _ = _
    have e1 := tod_head 84 h mi se (46 :: (digs N ++ [45, 48 + oh / 10, 48 + oh % 10, 58, 48 + om / 10, 48 + om % 10])) (.inl rfl) h1 h2 h3 h4 h5 h6 (by simp)
    rw [tail_frac N [45, 48 + oh / 10, 48 + oh % 10, 58, 48 + om / 10, 48 + om % 10] (by omega) (by show ¬ (48 ≤ (45 : Int) ∧ (45 : Int) ≤ 57); decide), zone_off 45 oh om (.inr rfl) h7 h8 h9 h10] at e1
    exact e1
  have hmk := mk_rule N (by omega)
  have hB0 := BufB.start w N (by omega)
  go_enter Try.func4, Try.ntmps4
  go_wp2_with fail
  refine (clock_in h mi se _ oh om _ hin).mono ?_
  rintro e w1 ⟨rfl, rfl⟩
  clear hin
  go_wp2_with (first
    | (at_builtin; refine push rfl _ _ rfl w1 w1.heap.size _ _ _ rfl (BufB.alloc (by assumption) _) _ _ rfl (by simp; rfl) (by omega) (by omega) ?_; intro wN hN; have hconv : (convert 24 9 (.slice (some ⟨w1.heap.size, 0, none⟩) _ _)).run Try.prog wN = _ := hN.conv)
    | (go_at_call 11; refine (push2 w1 w1.heap.size _ _ _ _ _ (by omega) (by omega) (by omega) (by assumption)).mono ?_; rintro e wN ⟨rfl, hN⟩; have hconv : (convert 24 9 (.slice (some ⟨w1.heap.size, 0, none⟩) _ _)).run Try.prog wN = _ := hN.conv))
  clear hmk hB0
  have hH : BufB w1 wN w1.heap.size 10 (16 + N) (hd 84 h mi se ++ 46 :: digs 0) := hN
  clear hN hconv
  go_loopw [21, 22] (fun vb vi wr => ∃ i : Nat, vi = .int .i64 (i : Int) ∧ vb = .slice (some ⟨w1.heap.size, 0, none⟩) (10 + i) (16 + N) ∧ i ≤ N ∧ BufB w1 wr w1.heap.size (10 + i) (16 + N) (hd 84 h mi se ++ 46 :: digs i)) (fun _ vi _ => N - (intOf vi).toNat)
  case atStart => exact ⟨0, rfl, rfl, Nat.zero_le _, hH⟩
  case round =>
    clear hH
    obtain ⟨i, rfl, rfl, hi, hBi⟩ := hrel
    by_cases hlt : (i : Int) < (N : Int)
    · have hm0 : 0 ≤ (i : Int) % 10 := by omega
      have hm1 : (i : Int) % 10 ≤ 9 := by omega
      go_wp2_with (first
        | (at_builtin; refine push rfl _ _ rfl w1 w1.heap.size _ _ _ rfl (BufB.alloc (by assumption) _) _ _ rfl (by simp; rfl) (by omega) (by omega) ?_; intro wN hN)
        | (go_at_call 11; refine (push2 w1 w1.heap.size _ _ _ _ _ (by omega) (by omega) (by omega) (by assumption)).mono ?_; rintro e wN ⟨rfl, hN⟩))
      go_roundw
      case rel => exact ⟨i + 1, by go_num, by congr 1, by omega, hN.to (by rw [digs_succ]; simp)⟩
      case measure => simp [intOf]; omega
    · have ei : i = N := by omega
      subst ei
      go_wp2_with (first
        | (at_builtin; refine push rfl _ _ rfl w1 w1.heap.size _ _ _ rfl (BufB.alloc (by assumption) _) _ _ rfl (by simp; rfl) (by omega) (by omega) ?_; intro wN hN; have hconv : (convert 24 9 (.slice (some ⟨w1.heap.size, 0, none⟩) _ _)).run Try.prog wN = _ := hN.conv)
        | (go_at_call 11; refine (push2 w1 w1.heap.size _ _ _ _ _ (by omega) (by omega) (by omega) (by assumption)).mono ?_; rintro e wN ⟨rfl, hN⟩; have hconv : (convert 24 9 (.slice (some ⟨w1.heap.size, 0, none⟩) _ _)).run Try.prog wN = _ := hN.conv))
      all_goals
        have hbel := hN.1.2
        refine (zztod_eq (hd 84 h mi se ++ 46 :: (digs i ++ [45, 48 + oh / 10, 48 + oh % 10, 58, 48 + om / 10, 48 + om % 10])) _ _ (hN.to (by simp [hd])).2 (by simp [hd, digs_length]; omega) HX).mono ?_
        rintro e w2 ⟨rfl, n, rfl⟩
        clear hN hconv HX
        go_wp2
        go_ret
        exact ⟨ret_boolT (by simp; try omega), below_drewN hbel _⟩

set_option maxRecDepth 10000 in
set_option maxHeartbeats 2000000 in
theorem frac_T_op (h mi se oh om : Int) (N : Nat) (u : Bool) (w : World) (hin : InClock h mi se (N : Int) oh om) (hfd : (0 : Int) < (N : Int)) :
    Calls Try.prog 4 #[.int .i64 h, .int .i64 mi, .int .i64 se, .int .i64 (N : Int), .bool true, .bool true, .bool false, .bool u, .int .i64 oh, .int .i64 om] w fun e w' => e = .returned (.bool true) ∧ Below w.heap.size w w' := by
  have HI := hin
  obtain ⟨⟨h1, h2⟩, ⟨h3, h4⟩, ⟨h5, h6⟩, ⟨h7, h8⟩, ⟨h9, h10⟩, h11, h12⟩ := HI
  have HX : Hid (todB (hd 84 h mi se ++ 46 :: (digs N ++ [43, 48 + oh / 10, 48 + oh % 10, 58, 48 + om / 10, 48 + om % 10])).length (fun i => (hd 84 h mi se ++ 46 :: (digs N ++ [43, 48 + oh / 10, 48 + oh % 10, 58, 48 + om / 10, 48 + om % 10])).getD i 0) = ((decide (h ≤ 23) && (decide (mi ≤ 59) && decide (se ≤ 60))) && (decide (oh ≤ 23) && decide (om ≤ 59)))) := by
    show _ = _
    have e1 := tod_head 84 h mi se (46 :: (digs N ++ [43, 48 + oh / 10, 48 + oh % 10, 58, 48 + om / 10, 48 + om % 10])) (.inl rfl) h1 h2 h3 h4 h5 h6 (by simp)
    rw [tail_frac N [43, 48 + oh / 10, 48 + oh % 10, 58, 48 + om / 10, 48 + om % 10] (by omega) (by show ¬ (48 ≤ (43 : Int) ∧ (43 : Int) ≤ 57); decide), zone_off 43 oh om (.inl rfl) h7 h8 h9 h10] at e1
    exact e1
  have hmk := mk_rule N (by omega)
  have hB0 := BufB.start w N (by omega)
  go_enter Try.func4, Try.ntmps4
  go_wp2_with fail
  refine (clock_in h mi se _ oh om _ hin).mono ?_
  rintro e w1 ⟨rfl, rfl⟩
  clear hin
  go_wp2_with (first
    | (at_builtin; refine push rfl _ _ rfl w1 w1.heap.size _ _ _ rfl (BufB.alloc (by assumption) _) _ _ rfl (by simp; rfl) (by omega) (by omega) ?_; intro wN hN; have hconv : (convert 24 9 (.slice (some ⟨w1.heap.size, 0, none⟩) _ _)).run Try.prog wN = _ := hN.conv)
    | (go_at_call 11; refine (push2 w1 w1.heap.size _ _ _ _ _ (by omega) (by omega) (by omega) (by assumption)).mono ?_; rintro e wN ⟨rfl, hN⟩; have hconv : (convert 24 9 (.slice (some ⟨w1.heap.size, 0, none⟩) _ _)).run Try.prog wN = _ := hN.conv))
  clear hmk hB0
  have hH : BufB w1 wN w1.heap.size 10 (16 + N) (hd 84 h mi se ++ 46 :: digs 0) := hN
  clear hN hconv
  go_loopw [21, 22] (fun vb vi wr => ∃ i : Nat, vi = .int .i64 (i : Int) ∧ vb = .slice (some ⟨w1.heap.size, 0, none⟩) (10 + i) (16 + N) ∧ i ≤ N ∧ BufB w1 wr w1.heap.size (10 + i) (16 + N) (hd 84 h mi se ++ 46 :: digs i)) (fun _ vi _ => N - (intOf vi).toNat)
  case atStart => exact ⟨0, rfl, rfl, Nat.zero_le _, hH⟩
  case round =>
    clear hH
    obtain ⟨i, rfl, rfl, hi, hBi⟩ := hrel
    by_cases hlt : (i : Int) < (N : Int)
    · have hm0 : 0 ≤ (i : Int) % 10 := by omega
      have hm1 : (i : Int) % 10 ≤ 9 := by omega
      go_wp2_with (first
        | (at_builtin; refine push rfl _ _ rfl w1 w1.heap.size _ _ _ rfl (BufB.alloc (by assumption) _) _ _ rfl (by simp; rfl) (by omega) (by omega) ?_; intro wN hN)
        | (go_at_call 11; refine (push2 w1 w1.heap.size _ _ _ _ _ (by omega) (by omega) (by omega) (by assumption)).mono ?_; rintro e wN ⟨rfl, hN⟩))
      go_roundw
      case rel => exact ⟨i + 1, by go_num, by congr 1, by omega, hN.to (by rw [digs_succ]; simp)⟩
      case measure => simp [intOf]; omega
    · have ei : i = N := by omega
      subst ei
      go_wp2_with (first
        | (at_builtin; refine push rfl _ _ rfl w1 w1.heap.size _ _ _ rfl (BufB.alloc (by assumption) _) _ _ rfl (by simp; rfl) (by omega) (by omega) ?_; intro wN hN; have hconv : (convert 24 9 (.slice (some ⟨w1.heap.size, 0, none⟩) _ _)).run Try.prog wN = _ := hN.conv)
        | (go_at_call 11; refine (push2 w1 w1.heap.size _ _ _ _ _ (by omega) (by omega) (by omega) (by assumption)).mono ?_; rintro e wN ⟨rfl, hN⟩; have hconv : (convert 24 9 (.slice (some ⟨w1.heap.size, 0, none⟩) _ _)).run Try.prog wN = _ := hN.conv))
      all_goals
        have hbel := hN.1.2
        refine (zztod_eq (hd 84 h mi se ++ 46 :: (digs i ++ [43, 48 + oh / 10, 48 + oh % 10, 58, 48 + om / 10, 48 + om % 10])) _ _ (hN.to (by simp [hd])).2 (by simp [hd, digs_length]; omega) HX).mono ?_
        rintro e w2 ⟨rfl, n, rfl⟩
        clear hN hconv HX
        go_wp2
        go_ret
        exact ⟨ret_boolT (by simp; try omega), below_drewN hbel _⟩

set_option maxRecDepth 10000 in
set_option maxHeartbeats 2000000 in
theorem frac_T_Z (h mi se oh om : Int) (N : Nat) (u : Bool) (w : World) (hin : InClock h mi se (N : Int) oh om) (hfd : (0 : Int) < (N : Int)) :
    Calls Try.prog 4 #[.int .i64 h, .int .i64 mi, .int .i64 se, .int .i64 (N : Int), .bool true, .bool false, .bool u, .bool true, .int .i64 oh, .int .i64 om] w fun e w' => e = .returned (.bool true) ∧ Below w.heap.size w w' := by
  have HI := hin
  obtain ⟨⟨h1, h2⟩, ⟨h3, h4⟩, ⟨h5, h6⟩, ⟨h7, h8⟩, ⟨h9, h10⟩, h11, h12⟩ := HI
  have HX : Hid (todB (hd 84 h mi se ++ 46 :: (digs N ++ [90])).length (fun i => (hd 84 h mi se ++ 46 :: (digs N ++ [90])).getD i 0) = ((decide (h ≤ 23) && (decide (mi ≤ 59) && decide (se ≤ 60))) && true)) := by
    show _ = _
    have e1 := tod_head 84 h mi se (46 :: (digs N ++ [90])) (.inl rfl) h1 h2 h3 h4 h5 h6 (by simp)
    rw [tail_frac N [90] (by omega) (by show ¬ (48 ≤ (90 : Int) ∧ (90 : Int) ≤ 57); decide), zone_Zl] at e1
    exact e1
  have hmk := mk_rule N (by omega)
  have hB0 := BufB.start w N (by omega)
  go_enter Try.func4, Try.ntmps4
  go_wp2_with fail
  refine (clock_in h mi se _ oh om _ hin).mono ?_
  rintro e w1 ⟨rfl, rfl⟩
  clear hin
  go_wp2_with (first
    | (at_builtin; refine push rfl _ _ rfl w1 w1.heap.size _ _ _ rfl (BufB.alloc (by assumption) _) _ _ rfl (by simp; rfl) (by omega) (by omega) ?_; intro wN hN; have hconv : (convert 24 9 (.slice (some ⟨w1.heap.size, 0, none⟩) _ _)).run Try.prog wN = _ := hN.conv)
    | (go_at_call 11; refine (push2 w1 w1.heap.size _ _ _ _ _ (by omega) (by omega) (by omega) (by assumption)).mono ?_; rintro e wN ⟨rfl, hN⟩; have hconv : (convert 24 9 (.slice (some ⟨w1.heap.size, 0, none⟩) _ _)).run Try.prog wN = _ := hN.conv))
  clear hmk hB0
  have hH : BufB w1 wN w1.heap.size 10 (16 + N) (hd 84 h mi se ++ 46 :: digs 0) := hN
  clear hN hconv
  go_loopw [21, 22] (fun vb vi wr => ∃ i : Nat, vi = .int .i64 (i : Int) ∧ vb = .slice (some ⟨w1.heap.size, 0, none⟩) (10 + i) (16 + N) ∧ i ≤ N ∧ BufB w1 wr w1.heap.size (10 + i) (16 + N) (hd 84 h mi se ++ 46 :: digs i)) (fun _ vi _ => N - (intOf vi).toNat)
  case atStart => exact ⟨0, rfl, rfl, Nat.zero_le _, hH⟩
  case round =>
    clear hH
    obtain ⟨i, rfl, rfl, hi, hBi⟩ := hrel
    by_cases hlt : (i : Int) < (N : Int)
    · have hm0 : 0 ≤ (i : Int) % 10 := by omega
      have hm1 : (i : Int) % 10 ≤ 9 := by omega
      go_wp2_with (first
        | (at_builtin; refine push rfl _ _ rfl w1 w1.heap.size _ _ _ rfl (BufB.alloc (by assumption) _) _ _ rfl (by simp; rfl) (by omega) (by omega) ?_; intro wN hN)
        | (go_at_call 11; refine (push2 w1 w1.heap.size _ _ _ _ _ (by omega) (by omega) (by omega) (by assumption)).mono ?_; rintro e wN ⟨rfl, hN⟩))
      go_roundw
      case rel => exact ⟨i + 1, by go_num, by congr 1, by omega, hN.to (by rw [digs_succ]; simp)⟩
      case measure => simp [intOf]; omega
    · have ei : i = N := by omega
      subst ei
      go_wp2_with (first
        | (at_builtin; refine push rfl _ _ rfl w1 w1.heap.size _ _ _ rfl (BufB.alloc (by assumption) _) _ _ rfl (by simp; rfl) (by omega) (by omega) ?_; intro wN hN; have hconv : (convert 24 9 (.slice (some ⟨w1.heap.size, 0, none⟩) _ _)).run Try.prog wN = _ := hN.conv)
        | (go_at_call 11; refine (push2 w1 w1.heap.size _ _ _ _ _ (by omega) (by omega) (by omega) (by assumption)).mono ?_; rintro e wN ⟨rfl, hN⟩; have hconv : (convert 24 9 (.slice (some ⟨w1.heap.size, 0, none⟩) _ _)).run Try.prog wN = _ := hN.conv))
      all_goals
        have hbel := hN.1.2
        refine (zztod_eq (hd 84 h mi se ++ 46 :: (digs i ++ [90])) _ _ (hN.to (by simp [hd])).2 (by simp [hd, digs_length]; omega) HX).mono ?_
        rintro e w2 ⟨rfl, n, rfl⟩
        clear hN hconv HX
        go_wp2
        go_ret
        exact ⟨ret_boolT (by simp; try omega), below_drewN hbel _⟩

set_option maxRecDepth 10000 in
set_option maxHeartbeats 2000000 in
theorem frac_T_z (h mi se oh om : Int) (N : Nat) (u : Bool) (w : World) (hin : InClock h mi se (N : Int) oh om) (hfd : (0 : Int) < (N : Int)) :
    Calls Try.prog 4 #[.int .i64 h, .int .i64 mi, .int .i64 se, .int .i64 (N : Int), .bool true, .bool false, .bool u, .bool false, .int .i64 oh, .int .i64 om] w fun e w' => e = .returned (.bool true) ∧ Below w.heap.size w w' := by
  have HI := hin
  obtain ⟨⟨h1, h2⟩, ⟨h3, h4⟩, ⟨h5, h6⟩, ⟨h7, h8⟩, ⟨h9, h10⟩, h11, h12⟩ := HI
  have HX : Hid (todB (hd 84 h mi se ++ 46 :: (digs N ++ [122])).length (fun i => (hd 84 h mi se ++ 46 :: (digs N ++ [122])).getD i 0) = ((decide (h ≤ 23) && (decide (mi ≤ 59) && decide (se ≤ 60))) && true)) := by
    show _ = _
    have e1 := tod_head 84 h mi se (46 :: (digs N ++ [122])) (.inl rfl) h1 h2 h3 h4 h5 h6 (by simp)
    rw [tail_frac N [122] (by omega) (by show ¬ (48 ≤ (122 : Int) ∧ (122 : Int) ≤ 57); decide), zone_zl] at e1
    exact e1
  have hmk := mk_rule N (by omega)
  have hB0 := BufB.start w N (by omega)
  go_enter Try.func4, Try.ntmps4
  go_wp2_with fail
  refine (clock_in h mi se _ oh om _ hin).mono ?_
  rintro e w1 ⟨rfl, rfl⟩
  clear hin
  go_wp2_with (first
    | (at_builtin; refine push rfl _ _ rfl w1 w1.heap.size _ _ _ rfl (BufB.alloc (by assumption) _) _ _ rfl (by simp; rfl) (by omega) (by omega) ?_; intro wN hN; have hconv : (convert 24 9 (.slice (some ⟨w1.heap.size, 0, none⟩) _ _)).run Try.prog wN = _ := hN.conv)
    | (go_at_call 11; refine (push2 w1 w1.heap.size _ _ _ _ _ (by omega) (by omega) (by omega) (by assumption)).mono ?_; rintro e wN ⟨rfl, hN⟩; have hconv : (convert 24 9 (.slice (some ⟨w1.heap.size, 0, none⟩) _ _)).run Try.prog wN = _ := hN.conv))
  clear hmk hB0
  have hH : BufB w1 wN w1.heap.size 10 (16 + N) (hd 84 h mi se ++ 46 :: digs 0) := hN
  clear hN hconv
  go_loopw [21, 22] (fun vb vi wr => ∃ i : Nat, vi = .int .i64 (i : Int) ∧ vb = .slice (some ⟨w1.heap.size, 0, none⟩) (10 + i) (16 + N) ∧ i ≤ N ∧ BufB w1 wr w1.heap.size (10 + i) (16 + N) (hd 84 h mi se ++ 46 :: digs i)) (fun _ vi _ => N - (intOf vi).toNat)
  case atStart => exact ⟨0, rfl, rfl, Nat.zero_le _, hH⟩
  case round =>
    clear hH
    obtain ⟨i, rfl, rfl, hi, hBi⟩ := hrel
    by_cases hlt : (i : Int) < (N : Int)
    · have hm0 : 0 ≤ (i : Int) % 10 := by omega
      have hm1 : (i : Int) % 10 ≤ 9 := by omega
      go_wp2_with (first
        | (at_builtin; refine push rfl _ _ rfl w1 w1.heap.size _ _ _ rfl (BufB.alloc (by assumption) _) _ _ rfl (by simp; rfl) (by omega) (by omega) ?_; intro wN hN)
        | (go_at_call 11; refine (push2 w1 w1.heap.size _ _ _ _ _ (by omega) (by omega) (by omega) (by assumption)).mono ?_; rintro e wN ⟨rfl, hN⟩))
      go_roundw
      case rel => exact ⟨i + 1, by go_num, by congr 1, by omega, hN.to (by rw [digs_succ]; simp)⟩
      case measure => simp [intOf]; omega
    · have ei : i = N := by omega
      subst ei
      go_wp2_with (first
        | (at_builtin; refine push rfl _ _ rfl w1 w1.heap.size _ _ _ rfl (BufB.alloc (by assumption) _) _ _ rfl (by simp; rfl) (by omega) (by omega) ?_; intro wN hN; have hconv : (convert 24 9 (.slice (some ⟨w1.heap.size, 0, none⟩) _ _)).run Try.prog wN = _ := hN.conv)
        | (go_at_call 11; refine (push2 w1 w1.heap.size _ _ _ _ _ (by omega) (by omega) (by omega) (by assumption)).mono ?_; rintro e wN ⟨rfl, hN⟩; have hconv : (convert 24 9 (.slice (some ⟨w1.heap.size, 0, none⟩) _ _)).run Try.prog wN = _ := hN.conv))
      all_goals
        have hbel := hN.1.2
        refine (zztod_eq (hd 84 h mi se ++ 46 :: (digs i ++ [122])) _ _ (hN.to (by simp [hd])).2 (by simp [hd, digs_length]; omega) HX).mono ?_
        rintro e w2 ⟨rfl, n, rfl⟩
        clear hN hconv HX
        go_wp2
        go_ret
        exact ⟨ret_boolT (by simp; try omega), below_drewN hbel _⟩

end Go.Proofs.Qxb6604254a
