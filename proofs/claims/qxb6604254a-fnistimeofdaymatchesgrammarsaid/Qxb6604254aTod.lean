import Derived.Test.Qxb6604254aTwo
namespace Go.Proofs.Qxb6604254a
open Go.RowKit

theorem two_ext (s : ByteArray) (a b : Nat) (most : Int) (w : World) (hb : b ≤ s.size) (hab : a + 2 = b) :
    Calls Try.prog 25 #[.string (s.extract a b), .int .i64 most] w fun e w' => e = .returned (.bool (tdB (bt s a) (bt s (a + 1)) most)) ∧ ∃ n, w' = w.drewN n := by
  refine two_any _ _ _ most w (by rw [extract_size s a b (by omega) hb]; omega) (fun h => ?_) (fun h => ?_) (bt_bd _ _) (bt_bd _ _)
  · rw [bt_get, extract_bt s a b 0 (by omega) hb]; rfl
  · rw [bt_get, extract_bt s a b 1 (by omega) hb]

/-! ### The zone, case by case -/
theorem one_byte (r : ByteArray) (v : UInt8) : (r.toList == [v]) = decide (r.size = 1 ∧ bt r 0 = (v.toNat : Int)) := by
  rw [ByteArray.toList_eq, Bool.eq_iff_iff, beq_iff_eq, decide_eq_true_iff]
  have hsz : r.size = r.data.toList.length := by simp
  unfold bt
  rw [hsz]
  match h : r.data.toList with
  | [] => simp
  | [x] =>
    simp
    constructor
    · intro e; rw [e]
    · intro e; exact UInt8.toNat_inj.1 (by omega)
  | _ :: _ :: _ => simp

theorem zone_Z (r : ByteArray) (h : (r.toList == [90]) = true) : zoneB r.size (bt r) = true := by
  rw [one_byte] at h
  have h' := of_decide_eq_true h
  unfold zoneB
  rw [decide_eq_true ⟨h'.1, .inl h'.2⟩]; rfl
theorem zone_z (r : ByteArray) (h : (r.toList == [122]) = true) : zoneB r.size (bt r) = true := by
  rw [one_byte] at h
  have h' := of_decide_eq_true h
  unfold zoneB
  rw [decide_eq_true ⟨h'.1, .inr h'.2⟩]; rfl
theorem not_Z (r : ByteArray) (h1 : (r.toList == [90]) = false) (h2 : (r.toList == [122]) = false) : ¬ (r.size = 1 ∧ (bt r 0 = 90 ∨ bt r 0 = 122)) := by
  rw [one_byte] at h1 h2
  have h1' := of_decide_eq_false h1
  have h2' := of_decide_eq_false h2
  rintro ⟨e, e' | e'⟩
  · exact h1' ⟨e, e'⟩
  · exact h2' ⟨e, e'⟩
theorem zone_len (r : ByteArray) (h1 : (r.toList == [90]) = false) (h2 : (r.toList == [122]) = false) (h3 : ((r.size : Int) == 6) = false) : zoneB r.size (bt r) = false := by
  have h3' : ¬ (r.size : Int) = 6 := by simpa using h3
  unfold zoneB
  rw [decide_eq_false (not_Z r h1 h2), decide_eq_false (fun h => h3' (by have := h.1; omega))]; rfl
theorem zone_sign (r : ByteArray) (h1 : (r.toList == [90]) = false) (h2 : (r.toList == [122]) = false) (h3 : (bt r 0 == 43) = false) (h4 : (bt r 0 == 45) = false) : zoneB r.size (bt r) = false := by
  have h3' : ¬ bt r 0 = 43 := by simpa using h3
  have h4' : ¬ bt r 0 = 45 := by simpa using h4
  unfold zoneB
  rw [decide_eq_false (not_Z r h1 h2), decide_eq_false (by rintro ⟨_, h | h⟩ <;> contradiction)]; rfl
theorem zone_in (r : ByteArray) (h1 : (r.toList == [90]) = false) (h2 : (r.toList == [122]) = false) (h3 : (r.size : Int) = 6) (h4 : (bt r 0 == 43) = true ∨ (bt r 0 == 45) = true) :
    zoneB r.size (bt r) = (tdB (bt r 1) (bt r 2) 23 && (decide (bt r 3 = 58) && tdB (bt r 4) (bt r 5) 59)) := by
  have h4' : bt r 0 = 43 ∨ bt r 0 = 45 := by simpa using h4
  unfold zoneB
  rw [decide_eq_false (not_Z r h1 h2), decide_eq_true ⟨by omega, h4'⟩]; rfl

set_option maxRecDepth 10000 in
set_option maxHeartbeats 1000000 in
theorem tod_short (s : ByteArray) (w : World) (hs : (s.size : Int) ≤ 9) :
    Calls Try.prog 20 #[.string s] w fun e w' => e = .returned (.bool (todB s.size (bt s))) ∧ ∃ n, w' = w.drewN n := by
  have HF : Hid (false = todB s.size (bt s)) := by
    show _ = _
    unfold todB
    rw [decide_eq_false (by omega)]; rfl
  go_enter Try.func20, Try.ntmps20
  go_wp2
  go_ret
  exact ⟨ret_boolT HF.out, 0, rfl⟩

set_option maxRecDepth 10000 in
set_option maxHeartbeats 1000000 in
theorem tod_noT (s : ByteArray) (w : World) (hs : (9 : Int) < (s.size : Int)) (h0 : (bt s 0 != 84) = true) (h0' : (bt s 0 != 116) = true) :
    Calls Try.prog 20 #[.string s] w fun e w' => e = .returned (.bool (todB s.size (bt s))) ∧ ∃ n, w' = w.drewN n := by
  have hbt : ∀ i (h : i < s.size), ((s[i]'h).toNat : Int) = bt s i := fun i h => bt_get s i h
  have HF : Hid (false = todB s.size (bt s)) := by
    show _ = _
    unfold todB clockB
    rw [decide_eq_false (p := (bt s 0 = 84 ∨ bt s 0 = 116)) (by simp at h0 h0'; omega)]
    simp
  go_enter Try.func20, Try.ntmps20
  go_wp2
  go_ret
  exact ⟨ret_boolT HF.out, 0, rfl⟩

set_option maxRecDepth 10000 in
set_option maxHeartbeats 4000000 in
theorem tod_T (s : ByteArray) (w : World) (hs : (9 : Int) < (s.size : Int)) (hs2 : (s.size : Int) ≤ 1048576) (h0 : (bt s 0 != 84) = false) :
    Calls Try.prog 20 #[.string s] w fun e w' => e = .returned (.bool (todB s.size (bt s))) ∧ ∃ n, w' = w.drewN n := by
  have hbt : ∀ i (h : i < s.size), ((s[i]'h).toNat : Int) = bt s i := fun i h => bt_get s i h
  have HT : Hid (todB s.size (bt s) = (tdB (bt s 1) (bt s 2) 23 && (decide (bt s 3 = 58) && (tdB (bt s 4) (bt s 5) 59 && (decide (bt s 6 = 58) && tdB (bt s 7) (bt s 8) 60))) && tailB (s.size - 9) (fun i => bt s (9 + i)))) := by
    show _ = _
    have e0 : bt s 0 = 84 ∨ bt s 0 = 116 := by simp at h0; omega
    unfold todB clockB
    rw [decide_eq_true (by omega), decide_eq_true e0]; rfl
  go_enter Try.func20, Try.ntmps20
  go_wp2_with fail
  refine (two_ext s 1 3 23 _ (by omega) rfl).mono ?_
  rintro e w1 ⟨rfl, n1, rfl⟩
  cases t1 : tdB (bt s 1) (bt s (1 + 1)) 23 with
  | false =>
    go_wp2
    go_ret
    exact ⟨ret_boolT (by rw [HT.out]; simp at t1; simp [t1]), _, rfl⟩
  | true =>
    cases h3 : (bt s 3 != 58) with
    | true =>
      go_wp2
      go_ret
      exact ⟨ret_boolT (by rw [HT.out]; simp at h3; simp [h3]), _, rfl⟩
    | false =>
      go_wp2_with fail
      refine (two_ext s 4 6 59 _ (by omega) rfl).mono ?_
      rintro e w2 ⟨rfl, n2, rfl⟩
      cases t2 : tdB (bt s 4) (bt s (4 + 1)) 59 with
      | false =>
        go_wp2
        go_ret
        exact ⟨ret_boolT (by rw [HT.out]; simp at t2; simp [t2]), _, rfl⟩
      | true =>
        cases h6 : (bt s 6 != 58) with
        | true =>
          go_wp2
          go_ret
          exact ⟨ret_boolT (by rw [HT.out]; simp at h6; simp [h6]), _, rfl⟩
        | false =>
          go_wp2_with fail
          refine (two_ext s 7 9 60 _ (by omega) rfl).mono ?_
          rintro e w3 ⟨rfl, n3, rfl⟩
          cases t3 : tdB (bt s 7) (bt s (7 + 1)) 60 with
          | false =>
            go_wp2
            go_ret
            exact ⟨ret_boolT (by rw [HT.out]; simp at t3; simp [t3]), _, rfl⟩
          | true =>
            obtain ⟨r, hr⟩ : ∃ r, s.extract 9 s.size = r := ⟨_, rfl⟩
            have hrs : (r.size : Int) = (s.size : Int) - 9 := by rw [← hr, extract_size s 9 s.size (by omega) (Nat.le_refl _)]; omega
            have hr1 : (0 : Int) < (r.size : Int) := by omega
            have hr2 : (r.size : Int) ≤ 1048576 := by omega
            have HW : Hid (todB s.size (bt s) = tailB r.size (bt r)) := by
              show _ = _
              have e1 : s.size - 9 = r.size := by omega
              have e2 : (fun i => bt s (9 + i)) = bt r := by rw [← hr]; exact (bt_rest s 9 (by omega)).symm
              rw [HT.out, e1, e2]
              simp at t1 t2 t3 h3 h6
              simp [t1, t2, t3, h3, h6]
            have hbr : ∀ i (h : i < r.size), ((r[i]'h).toNat : Int) = bt r i := fun i h => bt_get r i h
            clear hrs HT t1 t2 t3 h3 h6 hbt
            cases h46 : (bt r 0 == 46) with
            | false =>
              have HZ : Hid (todB s.size (bt s) = zoneB r.size (bt r)) := by
                show _ = _
                rw [HW.out]
                unfold tailB
                rw [if_neg (by simpa using h46)]
              cases y1 : (r.toList == [90]) with
              | true =>
                go_wp2
                go_ret
                exact ⟨ret_boolT (by rw [HZ.out, zone_Z r y1]), _, rfl⟩
              | false =>
                cases y2 : (r.toList == [122]) with
                | true =>
                  go_wp2
                  go_ret
                  exact ⟨ret_boolT (by rw [HZ.out, zone_z r y2]), _, rfl⟩
                | false =>
                  cases y3 : ((r.size : Int) == 6) with
                  | false =>
                    go_wp2
                    go_ret
                    exact ⟨ret_boolT (by rw [HZ.out, zone_len r y1 y2 y3]), _, rfl⟩
                  | true =>
                    have y3' : (r.size : Int) = 6 := by simpa using y3
                    have y4' : (3 : Int) ≤ (r.size : Int) := by omega
                    have y5' : (6 : Int) ≤ (r.size : Int) := by omega
                    have y6' : (3 : Int) < (r.size : Int) := by omega
                    have Y3 : Hid ((r.size : Int) = 6) := y3'
                    clear y3'
                    cases y4 : (bt r 0 == 43) with
                    | true =>
                      have HI : Hid (zoneB r.size (bt r) = (tdB (bt r 1) (bt r 2) 23 && (decide (bt r 3 = 58) && tdB (bt r 4) (bt r 5) 59))) := zone_in r y1 y2 Y3.out (.inl y4)
                      go_wp2_with fail
                      refine (two_ext r 1 3 23 _ (by omega) rfl).mono ?_
                      rintro e wa ⟨rfl, na, rfl⟩
                      cases u1 : tdB (bt r 1) (bt r (1 + 1)) 23 with
                      | false =>
                        go_wp2
                        go_ret
                        exact ⟨ret_boolT (by rw [HZ.out, HI.out]; simp at u1; simp [u1]), _, rfl⟩
                      | true =>
                        cases u2 : (bt r 3 == 58) with
                        | false =>
                          go_wp2
                          go_ret
                          exact ⟨ret_boolT (by rw [HZ.out, HI.out]; simp at u2; simp [u2]), _, rfl⟩
                        | true =>
                          have HU : Hid (todB s.size (bt s) = tdB (bt r 4) (bt r 5) 59) := by
                            show _ = _
                            rw [HZ.out, HI.out]
                            simp at u1 u2
                            simp [u1, u2]
                          go_wp2_with fail
                          refine (two_ext r 4 6 59 _ (by omega) rfl).mono ?_
                          rintro e wb ⟨rfl, nb, rfl⟩
                          go_wp2
                          go_ret
                          exact ⟨ret_boolT HU.out.symm, _, rfl⟩
                    | false =>
                      cases y5 : (bt r 0 == 45) with
                      | true =>
                        have HI : Hid (zoneB r.size (bt r) = (tdB (bt r 1) (bt r 2) 23 && (decide (bt r 3 = 58) && tdB (bt r 4) (bt r 5) 59))) := zone_in r y1 y2 Y3.out (.inr y5)
                        go_wp2_with fail
                        refine (two_ext r 1 3 23 _ (by omega) rfl).mono ?_
                        rintro e wa ⟨rfl, na, rfl⟩
                        cases u1 : tdB (bt r 1) (bt r (1 + 1)) 23 with
                        | false =>
                          go_wp2
                          go_ret
                          exact ⟨ret_boolT (by rw [HZ.out, HI.out]; simp at u1; simp [u1]), _, rfl⟩
                        | true =>
                          cases u2 : (bt r 3 == 58) with
                          | false =>
                            go_wp2
                            go_ret
                            exact ⟨ret_boolT (by rw [HZ.out, HI.out]; simp at u2; simp [u2]), _, rfl⟩
                          | true =>
                            have HU : Hid (todB s.size (bt s) = tdB (bt r 4) (bt r 5) 59) := by
                              show _ = _
                              rw [HZ.out, HI.out]
                              simp at u1 u2
                              simp [u1, u2]
                            go_wp2_with fail
                            refine (two_ext r 4 6 59 _ (by omega) rfl).mono ?_
                            rintro e wb ⟨rfl, nb, rfl⟩
                            go_wp2
                            go_ret
                            exact ⟨ret_boolT HU.out.symm, _, rfl⟩
                      | false =>
                        go_wp2
                        go_ret
                        exact ⟨ret_boolT (by rw [HZ.out, zone_sign r y1 y2 y4 y5]), _, rfl⟩
            | true =>
              have HV : Hid (todB s.size (bt s) = (if runD (bt r) (r.size - 1) 1 = 1 then false else zoneB (r.size - runD (bt r) (r.size - 1) 1) (fun i => bt r (runD (bt r) (r.size - 1) 1 + i)))) := by
                show _ = _
                rw [HW.out]
                unfold tailB
                rw [if_pos (by simpa using h46)]
              go_wp2
              go_loop [3] (fun vk => ∃ k : Nat, vk = .int .i64 (k : Int) ∧ 1 ≤ k ∧ k ≤ r.size ∧ Hid (runD (bt r) (r.size - k) k = runD (bt r) (r.size - 1) 1)) (fun vk => r.size - (intOf vk).toNat)
              case atStart => exact ⟨1, rfl, Nat.le_refl _, by omega, rfl⟩
              case round =>
                obtain ⟨k, rfl, hk1, hk2, HK⟩ := hrel
                by_cases hdig : k < r.size ∧ 48 ≤ bt r k ∧ bt r k ≤ 57
                · obtain ⟨hd1, hd2, hd3⟩ := hdig
                  go_wp2
                  go_round
                  case rel => exact ⟨k + 1, by go_num, by omega, by omega, by rw [← HK.out]; exact (run_step (bt r) r.size k hd1 hd2 hd3).symm⟩
                  case measure => simp [intOf]; omega
                · have HR : Hid (runD (bt r) (r.size - 1) 1 = k) := by
                    show _ = _
                    rw [← HK.out]
                    exact run_stop (bt r) r.size k hk2 hdig
                  clear HK
                  obtain ⟨q, hq⟩ : ∃ q, r.extract k r.size = q := ⟨_, rfl⟩
                  have hqs : (q.size : Int) = (r.size : Int) - (k : Int) := by rw [← hq, extract_size r k r.size (by omega) (Nat.le_refl _)]; omega
                  have hbq : ∀ i (h : i < q.size), ((q[i]'h).toNat : Int) = bt q i := fun i h => bt_get q i h
                  have hq2 : (q.size : Int) ≤ 1048576 := by omega
                  by_cases hk0 : k = 1
                  · subst hk0
                    have HF : Hid (false = todB s.size (bt s)) := by
                      show _ = _
                      rw [HV.out, HR.out, if_pos rfl]
                    clear hqs hq
                    by_cases hd1 : 1 < r.size
                    · by_cases hd2 : 48 ≤ bt r 1
                      · have hd3 : ¬ bt r 1 ≤ 57 := fun h => hdig ⟨hd1, hd2, h⟩
                        clear hdig
                        go_wp2
                        go_ret
                        exact ⟨ret_boolT HF.out, _, rfl⟩
                      · clear hdig
                        go_wp2
                        go_ret
                        exact ⟨ret_boolT HF.out, _, rfl⟩
                    · clear hdig
                      go_wp2
                      go_ret
                      exact ⟨ret_boolT HF.out, _, rfl⟩
                  · have hk3 : ((k : Int) == 1) = false := by rw [beq_eq_false_iff_ne]; omega
                    have HZ : Hid (todB s.size (bt s) = zoneB q.size (bt q)) := by
                      show _ = _
                      have e1 : r.size - k = q.size := by omega
                      have e2 : (fun i => bt r (k + i)) = bt q := by rw [← hq]; exact (bt_rest r k hk2).symm
                      rw [HV.out, HR.out, if_neg hk0, e1, e2]
                    clear hk0 hqs
                    by_cases hd1 : k < r.size
                    · by_cases hd2 : 48 ≤ bt r k
                      · have hd3 : ¬ bt r k ≤ 57 := fun h => hdig ⟨hd1, hd2, h⟩
                        clear hdig
                        cases y1 : (q.toList == [90]) with
                        | true =>
                          go_wp2
                          go_ret
                          exact ⟨ret_boolT (by rw [HZ.out, zone_Z q y1]), _, rfl⟩
                        | false =>
                          cases y2 : (q.toList == [122]) with
                          | true =>
                            go_wp2
                            go_ret
                            exact ⟨ret_boolT (by rw [HZ.out, zone_z q y2]), _, rfl⟩
                          | false =>
                            cases y3 : ((q.size : Int) == 6) with
                            | false =>
                              go_wp2
                              go_ret
                              exact ⟨ret_boolT (by rw [HZ.out, zone_len q y1 y2 y3]), _, rfl⟩
                            | true =>
                              have y3' : (q.size : Int) = 6 := by simpa using y3
                              have y4' : (3 : Int) ≤ (q.size : Int) := by omega
                              have y5' : (6 : Int) ≤ (q.size : Int) := by omega
                              have y6' : (3 : Int) < (q.size : Int) := by omega
                              have Y3 : Hid ((q.size : Int) = 6) := y3'
                              clear y3'
                              cases y4 : (bt q 0 == 43) with
                              | true =>
                                have HI : Hid (zoneB q.size (bt q) = (tdB (bt q 1) (bt q 2) 23 && (decide (bt q 3 = 58) && tdB (bt q 4) (bt q 5) 59))) := zone_in q y1 y2 Y3.out (.inl y4)
                                go_wp2_with fail
                                refine (two_ext q 1 3 23 _ (by omega) rfl).mono ?_
                                rintro e wa ⟨rfl, na, rfl⟩
                                cases u1 : tdB (bt q 1) (bt q (1 + 1)) 23 with
                                | false =>
                                  go_wp2
                                  go_ret
                                  exact ⟨ret_boolT (by rw [HZ.out, HI.out]; simp at u1; simp [u1]), _, rfl⟩
                                | true =>
                                  cases u2 : (bt q 3 == 58) with
                                  | false =>
                                    go_wp2
                                    go_ret
                                    exact ⟨ret_boolT (by rw [HZ.out, HI.out]; simp at u2; simp [u2]), _, rfl⟩
                                  | true =>
                                    have HU : Hid (todB s.size (bt s) = tdB (bt q 4) (bt q 5) 59) := by
                                      show _ = _
                                      rw [HZ.out, HI.out]
                                      simp at u1 u2
                                      simp [u1, u2]
                                    go_wp2_with fail
                                    refine (two_ext q 4 6 59 _ (by omega) rfl).mono ?_
                                    rintro e wb ⟨rfl, nb, rfl⟩
                                    go_wp2
                                    go_ret
                                    exact ⟨ret_boolT HU.out.symm, _, rfl⟩
                              | false =>
                                cases y5 : (bt q 0 == 45) with
                                | true =>
                                  have HI : Hid (zoneB q.size (bt q) = (tdB (bt q 1) (bt q 2) 23 && (decide (bt q 3 = 58) && tdB (bt q 4) (bt q 5) 59))) := zone_in q y1 y2 Y3.out (.inr y5)
                                  go_wp2_with fail
                                  refine (two_ext q 1 3 23 _ (by omega) rfl).mono ?_
                                  rintro e wa ⟨rfl, na, rfl⟩
                                  cases u1 : tdB (bt q 1) (bt q (1 + 1)) 23 with
                                  | false =>
                                    go_wp2
                                    go_ret
                                    exact ⟨ret_boolT (by rw [HZ.out, HI.out]; simp at u1; simp [u1]), _, rfl⟩
                                  | true =>
                                    cases u2 : (bt q 3 == 58) with
                                    | false =>
                                      go_wp2
                                      go_ret
                                      exact ⟨ret_boolT (by rw [HZ.out, HI.out]; simp at u2; simp [u2]), _, rfl⟩
                                    | true =>
                                      have HU : Hid (todB s.size (bt s) = tdB (bt q 4) (bt q 5) 59) := by
                                        show _ = _
                                        rw [HZ.out, HI.out]
                                        simp at u1 u2
                                        simp [u1, u2]
                                      go_wp2_with fail
                                      refine (two_ext q 4 6 59 _ (by omega) rfl).mono ?_
                                      rintro e wb ⟨rfl, nb, rfl⟩
                                      go_wp2
                                      go_ret
                                      exact ⟨ret_boolT HU.out.symm, _, rfl⟩
                                | false =>
                                  go_wp2
                                  go_ret
                                  exact ⟨ret_boolT (by rw [HZ.out, zone_sign q y1 y2 y4 y5]), _, rfl⟩
                      · clear hdig
                        cases y1 : (q.toList == [90]) with
                        | true =>
                          go_wp2
                          go_ret
                          exact ⟨ret_boolT (by rw [HZ.out, zone_Z q y1]), _, rfl⟩
                        | false =>
                          cases y2 : (q.toList == [122]) with
                          | true =>
                            go_wp2
                            go_ret
                            exact ⟨ret_boolT (by rw [HZ.out, zone_z q y2]), _, rfl⟩
                          | false =>
                            cases y3 : ((q.size : Int) == 6) with
                            | false =>
                              go_wp2
                              go_ret
                              exact ⟨ret_boolT (by rw [HZ.out, zone_len q y1 y2 y3]), _, rfl⟩
                            | true =>
                              have y3' : (q.size : Int) = 6 := by simpa using y3
                              have y4' : (3 : Int) ≤ (q.size : Int) := by omega
                              have y5' : (6 : Int) ≤ (q.size : Int) := by omega
                              have y6' : (3 : Int) < (q.size : Int) := by omega
                              have Y3 : Hid ((q.size : Int) = 6) := y3'
                              clear y3'
                              cases y4 : (bt q 0 == 43) with
                              | true =>
                                have HI : Hid (zoneB q.size (bt q) = (tdB (bt q 1) (bt q 2) 23 && (decide (bt q 3 = 58) && tdB (bt q 4) (bt q 5) 59))) := zone_in q y1 y2 Y3.out (.inl y4)
                                go_wp2_with fail
                                refine (two_ext q 1 3 23 _ (by omega) rfl).mono ?_
                                rintro e wa ⟨rfl, na, rfl⟩
                                cases u1 : tdB (bt q 1) (bt q (1 + 1)) 23 with
                                | false =>
                                  go_wp2
                                  go_ret
                                  exact ⟨ret_boolT (by rw [HZ.out, HI.out]; simp at u1; simp [u1]), _, rfl⟩
                                | true =>
                                  cases u2 : (bt q 3 == 58) with
                                  | false =>
                                    go_wp2
                                    go_ret
                                    exact ⟨ret_boolT (by rw [HZ.out, HI.out]; simp at u2; simp [u2]), _, rfl⟩
                                  | true =>
                                    have HU : Hid (todB s.size (bt s) = tdB (bt q 4) (bt q 5) 59) := by
                                      show _ = _
                                      rw [HZ.out, HI.out]
                                      simp at u1 u2
                                      simp [u1, u2]
                                    go_wp2_with fail
                                    refine (two_ext q 4 6 59 _ (by omega) rfl).mono ?_
                                    rintro e wb ⟨rfl, nb, rfl⟩
                                    go_wp2
                                    go_ret
                                    exact ⟨ret_boolT HU.out.symm, _, rfl⟩
                              | false =>
                                cases y5 : (bt q 0 == 45) with
                                | true =>
                                  have HI : Hid (zoneB q.size (bt q) = (tdB (bt q 1) (bt q 2) 23 && (decide (bt q 3 = 58) && tdB (bt q 4) (bt q 5) 59))) := zone_in q y1 y2 Y3.out (.inr y5)
                                  go_wp2_with fail
                                  refine (two_ext q 1 3 23 _ (by omega) rfl).mono ?_
                                  rintro e wa ⟨rfl, na, rfl⟩
                                  cases u1 : tdB (bt q 1) (bt q (1 + 1)) 23 with
                                  | false =>
                                    go_wp2
                                    go_ret
                                    exact ⟨ret_boolT (by rw [HZ.out, HI.out]; simp at u1; simp [u1]), _, rfl⟩
                                  | true =>
                                    cases u2 : (bt q 3 == 58) with
                                    | false =>
                                      go_wp2
                                      go_ret
                                      exact ⟨ret_boolT (by rw [HZ.out, HI.out]; simp at u2; simp [u2]), _, rfl⟩
                                    | true =>
                                      have HU : Hid (todB s.size (bt s) = tdB (bt q 4) (bt q 5) 59) := by
                                        show _ = _
                                        rw [HZ.out, HI.out]
                                        simp at u1 u2
                                        simp [u1, u2]
                                      go_wp2_with fail
                                      refine (two_ext q 4 6 59 _ (by omega) rfl).mono ?_
                                      rintro e wb ⟨rfl, nb, rfl⟩
                                      go_wp2
                                      go_ret
                                      exact ⟨ret_boolT HU.out.symm, _, rfl⟩
                                | false =>
                                  go_wp2
                                  go_ret
                                  exact ⟨ret_boolT (by rw [HZ.out, zone_sign q y1 y2 y4 y5]), _, rfl⟩
                    · clear hdig
                      cases y1 : (q.toList == [90]) with
                      | true =>
                        go_wp2
                        go_ret
                        exact ⟨ret_boolT (by rw [HZ.out, zone_Z q y1]), _, rfl⟩
                      | false =>
                        cases y2 : (q.toList == [122]) with
                        | true =>
                          go_wp2
                          go_ret
                          exact ⟨ret_boolT (by rw [HZ.out, zone_z q y2]), _, rfl⟩
                        | false =>
                          cases y3 : ((q.size : Int) == 6) with
                          | false =>
                            go_wp2
                            go_ret
                            exact ⟨ret_boolT (by rw [HZ.out, zone_len q y1 y2 y3]), _, rfl⟩
                          | true =>
                            have y3' : (q.size : Int) = 6 := by simpa using y3
                            have y4' : (3 : Int) ≤ (q.size : Int) := by omega
                            have y5' : (6 : Int) ≤ (q.size : Int) := by omega
                            have y6' : (3 : Int) < (q.size : Int) := by omega
                            have Y3 : Hid ((q.size : Int) = 6) := y3'
                            clear y3'
                            cases y4 : (bt q 0 == 43) with
                            | true =>
                              have HI : Hid (zoneB q.size (bt q) = (tdB (bt q 1) (bt q 2) 23 && (decide (bt q 3 = 58) && tdB (bt q 4) (bt q 5) 59))) := zone_in q y1 y2 Y3.out (.inl y4)
                              go_wp2_with fail
                              refine (two_ext q 1 3 23 _ (by omega) rfl).mono ?_
                              rintro e wa ⟨rfl, na, rfl⟩
                              cases u1 : tdB (bt q 1) (bt q (1 + 1)) 23 with
                              | false =>
                                go_wp2
                                go_ret
                                exact ⟨ret_boolT (by rw [HZ.out, HI.out]; simp at u1; simp [u1]), _, rfl⟩
                              | true =>
                                cases u2 : (bt q 3 == 58) with
                                | false =>
                                  go_wp2
                                  go_ret
                                  exact ⟨ret_boolT (by rw [HZ.out, HI.out]; simp at u2; simp [u2]), _, rfl⟩
                                | true =>
                                  have HU : Hid (todB s.size (bt s) = tdB (bt q 4) (bt q 5) 59) := by
                                    show _ = _
                                    rw [HZ.out, HI.out]
                                    simp at u1 u2
                                    simp [u1, u2]
                                  go_wp2_with fail
                                  refine (two_ext q 4 6 59 _ (by omega) rfl).mono ?_
                                  rintro e wb ⟨rfl, nb, rfl⟩
                                  go_wp2
                                  go_ret
                                  exact ⟨ret_boolT HU.out.symm, _, rfl⟩
                            | false =>
                              cases y5 : (bt q 0 == 45) with
                              | true =>
                                have HI : Hid (zoneB q.size (bt q) = (tdB (bt q 1) (bt q 2) 23 && (decide (bt q 3 = 58) && tdB (bt q 4) (bt q 5) 59))) := zone_in q y1 y2 Y3.out (.inr y5)
                                go_wp2_with fail
                                refine (two_ext q 1 3 23 _ (by omega) rfl).mono ?_
                                rintro e wa ⟨rfl, na, rfl⟩
                                cases u1 : tdB (bt q 1) (bt q (1 + 1)) 23 with
                                | false =>
                                  go_wp2
                                  go_ret
                                  exact ⟨ret_boolT (by rw [HZ.out, HI.out]; simp at u1; simp [u1]), _, rfl⟩
                                | true =>
                                  cases u2 : (bt q 3 == 58) with
                                  | false =>
                                    go_wp2
                                    go_ret
                                    exact ⟨ret_boolT (by rw [HZ.out, HI.out]; simp at u2; simp [u2]), _, rfl⟩
                                  | true =>
                                    have HU : Hid (todB s.size (bt s) = tdB (bt q 4) (bt q 5) 59) := by
                                      show _ = _
                                      rw [HZ.out, HI.out]
                                      simp at u1 u2
                                      simp [u1, u2]
                                    go_wp2_with fail
                                    refine (two_ext q 4 6 59 _ (by omega) rfl).mono ?_
                                    rintro e wb ⟨rfl, nb, rfl⟩
                                    go_wp2
                                    go_ret
                                    exact ⟨ret_boolT HU.out.symm, _, rfl⟩
                              | false =>
                                go_wp2
                                go_ret
                                exact ⟨ret_boolT (by rw [HZ.out, zone_sign q y1 y2 y4 y5]), _, rfl⟩

set_option maxRecDepth 10000 in
set_option maxHeartbeats 4000000 in
theorem tod_t (s : ByteArray) (w : World) (hs : (9 : Int) < (s.size : Int)) (hs2 : (s.size : Int) ≤ 1048576) (h0 : (bt s 0 != 84) = true) (h0b : (bt s 0 != 116) = false) :
    Calls Try.prog 20 #[.string s] w fun e w' => e = .returned (.bool (todB s.size (bt s))) ∧ ∃ n, w' = w.drewN n := by
  have hbt : ∀ i (h : i < s.size), ((s[i]'h).toNat : Int) = bt s i := fun i h => bt_get s i h
  have HT : Hid (todB s.size (bt s) = (tdB (bt s 1) (bt s 2) 23 && (decide (bt s 3 = 58) && (tdB (bt s 4) (bt s 5) 59 && (decide (bt s 6 = 58) && tdB (bt s 7) (bt s 8) 60))) && tailB (s.size - 9) (fun i => bt s (9 + i)))) := by
    show _ = _
    have e0 : bt s 0 = 84 ∨ bt s 0 = 116 := by simp at h0b; omega
    unfold todB clockB
    rw [decide_eq_true (by omega), decide_eq_true e0]; rfl
  go_enter Try.func20, Try.ntmps20
  go_wp2_with fail
  refine (two_ext s 1 3 23 _ (by omega) rfl).mono ?_
  rintro e w1 ⟨rfl, n1, rfl⟩
  cases t1 : tdB (bt s 1) (bt s (1 + 1)) 23 with
  | false =>
    go_wp2
    go_ret
    exact ⟨ret_boolT (by rw [HT.out]; simp at t1; simp [t1]), _, rfl⟩
  | true =>
    cases h3 : (bt s 3 != 58) with
    | true =>
      go_wp2
      go_ret
      exact ⟨ret_boolT (by rw [HT.out]; simp at h3; simp [h3]), _, rfl⟩
    | false =>
      go_wp2_with fail
      refine (two_ext s 4 6 59 _ (by omega) rfl).mono ?_
      rintro e w2 ⟨rfl, n2, rfl⟩
      cases t2 : tdB (bt s 4) (bt s (4 + 1)) 59 with
      | false =>
        go_wp2
        go_ret
        exact ⟨ret_boolT (by rw [HT.out]; simp at t2; simp [t2]), _, rfl⟩
      | true =>
        cases h6 : (bt s 6 != 58) with
        | true =>
          go_wp2
          go_ret
          exact ⟨ret_boolT (by rw [HT.out]; simp at h6; simp [h6]), _, rfl⟩
        | false =>
          go_wp2_with fail
          refine (two_ext s 7 9 60 _ (by omega) rfl).mono ?_
          rintro e w3 ⟨rfl, n3, rfl⟩
          cases t3 : tdB (bt s 7) (bt s (7 + 1)) 60 with
          | false =>
            go_wp2
            go_ret
            exact ⟨ret_boolT (by rw [HT.out]; simp at t3; simp [t3]), _, rfl⟩
          | true =>
            obtain ⟨r, hr⟩ : ∃ r, s.extract 9 s.size = r := ⟨_, rfl⟩
            have hrs : (r.size : Int) = (s.size : Int) - 9 := by rw [← hr, extract_size s 9 s.size (by omega) (Nat.le_refl _)]; omega
            have hr1 : (0 : Int) < (r.size : Int) := by omega
            have hr2 : (r.size : Int) ≤ 1048576 := by omega
            have HW : Hid (todB s.size (bt s) = tailB r.size (bt r)) := by
              show _ = _
              have e1 : s.size - 9 = r.size := by omega
              have e2 : (fun i => bt s (9 + i)) = bt r := by rw [← hr]; exact (bt_rest s 9 (by omega)).symm
              rw [HT.out, e1, e2]
              simp at t1 t2 t3 h3 h6
              simp [t1, t2, t3, h3, h6]
            have hbr : ∀ i (h : i < r.size), ((r[i]'h).toNat : Int) = bt r i := fun i h => bt_get r i h
            clear hrs HT t1 t2 t3 h3 h6 hbt
            cases h46 : (bt r 0 == 46) with
            | false =>
              have HZ : Hid (todB s.size (bt s) = zoneB r.size (bt r)) := by
                show _ = _
                rw [HW.out]
                unfold tailB
                rw [if_neg (by simpa using h46)]
              cases y1 : (r.toList == [90]) with
              | true =>
                go_wp2
                go_ret
                exact ⟨ret_boolT (by rw [HZ.out, zone_Z r y1]), _, rfl⟩
              | false =>
                cases y2 : (r.toList == [122]) with
                | true =>
                  go_wp2
                  go_ret
                  exact ⟨ret_boolT (by rw [HZ.out, zone_z r y2]), _, rfl⟩
                | false =>
                  cases y3 : ((r.size : Int) == 6) with
                  | false =>
                    go_wp2
                    go_ret
                    exact ⟨ret_boolT (by rw [HZ.out, zone_len r y1 y2 y3]), _, rfl⟩
                  | true =>
                    have y3' : (r.size : Int) = 6 := by simpa using y3
                    have y4' : (3 : Int) ≤ (r.size : Int) := by omega
                    have y5' : (6 : Int) ≤ (r.size : Int) := by omega
                    have y6' : (3 : Int) < (r.size : Int) := by omega
                    have Y3 : Hid ((r.size : Int) = 6) := y3'
                    clear y3'
                    cases y4 : (bt r 0 == 43) with
                    | true =>
                      have HI : Hid (zoneB r.size (bt r) = (tdB (bt r 1) (bt r 2) 23 && (decide (bt r 3 = 58) && tdB (bt r 4) (bt r 5) 59))) := zone_in r y1 y2 Y3.out (.inl y4)
                      go_wp2_with fail
                      refine (two_ext r 1 3 23 _ (by omega) rfl).mono ?_
                      rintro e wa ⟨rfl, na, rfl⟩
                      cases u1 : tdB (bt r 1) (bt r (1 + 1)) 23 with
                      | false =>
                        go_wp2
                        go_ret
                        exact ⟨ret_boolT (by rw [HZ.out, HI.out]; simp at u1; simp [u1]), _, rfl⟩
                      | true =>
                        cases u2 : (bt r 3 == 58) with
                        | false =>
                          go_wp2
                          go_ret
                          exact ⟨ret_boolT (by rw [HZ.out, HI.out]; simp at u2; simp [u2]), _, rfl⟩
                        | true =>
                          have HU : Hid (todB s.size (bt s) = tdB (bt r 4) (bt r 5) 59) := by
                            show _ = _
                            rw [HZ.out, HI.out]
                            simp at u1 u2
                            simp [u1, u2]
                          go_wp2_with fail
                          refine (two_ext r 4 6 59 _ (by omega) rfl).mono ?_
                          rintro e wb ⟨rfl, nb, rfl⟩
                          go_wp2
                          go_ret
                          exact ⟨ret_boolT HU.out.symm, _, rfl⟩
                    | false =>
                      cases y5 : (bt r 0 == 45) with
                      | true =>
                        have HI : Hid (zoneB r.size (bt r) = (tdB (bt r 1) (bt r 2) 23 && (decide (bt r 3 = 58) && tdB (bt r 4) (bt r 5) 59))) := zone_in r y1 y2 Y3.out (.inr y5)
                        go_wp2_with fail
                        refine (two_ext r 1 3 23 _ (by omega) rfl).mono ?_
                        rintro e wa ⟨rfl, na, rfl⟩
                        cases u1 : tdB (bt r 1) (bt r (1 + 1)) 23 with
                        | false =>
                          go_wp2
                          go_ret
                          exact ⟨ret_boolT (by rw [HZ.out, HI.out]; simp at u1; simp [u1]), _, rfl⟩
                        | true =>
                          cases u2 : (bt r 3 == 58) with
                          | false =>
                            go_wp2
                            go_ret
                            exact ⟨ret_boolT (by rw [HZ.out, HI.out]; simp at u2; simp [u2]), _, rfl⟩
                          | true =>
                            have HU : Hid (todB s.size (bt s) = tdB (bt r 4) (bt r 5) 59) := by
                              show _ = _
                              rw [HZ.out, HI.out]
                              simp at u1 u2
                              simp [u1, u2]
                            go_wp2_with fail
                            refine (two_ext r 4 6 59 _ (by omega) rfl).mono ?_
                            rintro e wb ⟨rfl, nb, rfl⟩
                            go_wp2
                            go_ret
                            exact ⟨ret_boolT HU.out.symm, _, rfl⟩
                      | false =>
                        go_wp2
                        go_ret
                        exact ⟨ret_boolT (by rw [HZ.out, zone_sign r y1 y2 y4 y5]), _, rfl⟩
            | true =>
              have HV : Hid (todB s.size (bt s) = (if runD (bt r) (r.size - 1) 1 = 1 then false else zoneB (r.size - runD (bt r) (r.size - 1) 1) (fun i => bt r (runD (bt r) (r.size - 1) 1 + i)))) := by
                show _ = _
                rw [HW.out]
                unfold tailB
                rw [if_pos (by simpa using h46)]
              go_wp2
              go_loop [3] (fun vk => ∃ k : Nat, vk = .int .i64 (k : Int) ∧ 1 ≤ k ∧ k ≤ r.size ∧ Hid (runD (bt r) (r.size - k) k = runD (bt r) (r.size - 1) 1)) (fun vk => r.size - (intOf vk).toNat)
              case atStart => exact ⟨1, rfl, Nat.le_refl _, by omega, rfl⟩
              case round =>
                obtain ⟨k, rfl, hk1, hk2, HK⟩ := hrel
                by_cases hdig : k < r.size ∧ 48 ≤ bt r k ∧ bt r k ≤ 57
                · obtain ⟨hd1, hd2, hd3⟩ := hdig
                  go_wp2
                  go_round
                  case rel => exact ⟨k + 1, by go_num, by omega, by omega, by rw [← HK.out]; exact (run_step (bt r) r.size k hd1 hd2 hd3).symm⟩
                  case measure => simp [intOf]; omega
                · have HR : Hid (runD (bt r) (r.size - 1) 1 = k) := by
                    show _ = _
                    rw [← HK.out]
                    exact run_stop (bt r) r.size k hk2 hdig
                  clear HK
                  obtain ⟨q, hq⟩ : ∃ q, r.extract k r.size = q := ⟨_, rfl⟩
                  have hqs : (q.size : Int) = (r.size : Int) - (k : Int) := by rw [← hq, extract_size r k r.size (by omega) (Nat.le_refl _)]; omega
                  have hbq : ∀ i (h : i < q.size), ((q[i]'h).toNat : Int) = bt q i := fun i h => bt_get q i h
                  have hq2 : (q.size : Int) ≤ 1048576 := by omega
                  by_cases hk0 : k = 1
                  · subst hk0
                    have HF : Hid (false = todB s.size (bt s)) := by
                      show _ = _
                      rw [HV.out, HR.out, if_pos rfl]
                    clear hqs hq
                    by_cases hd1 : 1 < r.size
                    · by_cases hd2 : 48 ≤ bt r 1
                      · have hd3 : ¬ bt r 1 ≤ 57 := fun h => hdig ⟨hd1, hd2, h⟩
                        clear hdig
                        go_wp2
                        go_ret
                        exact ⟨ret_boolT HF.out, _, rfl⟩
                      · clear hdig
                        go_wp2
                        go_ret
                        exact ⟨ret_boolT HF.out, _, rfl⟩
                    · clear hdig
                      go_wp2
                      go_ret
                      exact ⟨ret_boolT HF.out, _, rfl⟩
                  · have hk3 : ((k : Int) == 1) = false := by rw [beq_eq_false_iff_ne]; omega
                    have HZ : Hid (todB s.size (bt s) = zoneB q.size (bt q)) := by
                      show _ = _
                      have e1 : r.size - k = q.size := by omega
                      have e2 : (fun i => bt r (k + i)) = bt q := by rw [← hq]; exact (bt_rest r k hk2).symm
                      rw [HV.out, HR.out, if_neg hk0, e1, e2]
                    clear hk0 hqs
                    by_cases hd1 : k < r.size
                    · by_cases hd2 : 48 ≤ bt r k
                      · have hd3 : ¬ bt r k ≤ 57 := fun h => hdig ⟨hd1, hd2, h⟩
                        clear hdig
                        cases y1 : (q.toList == [90]) with
                        | true =>
                          go_wp2
                          go_ret
                          exact ⟨ret_boolT (by rw [HZ.out, zone_Z q y1]), _, rfl⟩
                        | false =>
                          cases y2 : (q.toList == [122]) with
                          | true =>
                            go_wp2
                            go_ret
                            exact ⟨ret_boolT (by rw [HZ.out, zone_z q y2]), _, rfl⟩
                          | false =>
                            cases y3 : ((q.size : Int) == 6) with
                            | false =>
                              go_wp2
                              go_ret
                              exact ⟨ret_boolT (by rw [HZ.out, zone_len q y1 y2 y3]), _, rfl⟩
                            | true =>
                              have y3' : (q.size : Int) = 6 := by simpa using y3
                              have y4' : (3 : Int) ≤ (q.size : Int) := by omega
                              have y5' : (6 : Int) ≤ (q.size : Int) := by omega
                              have y6' : (3 : Int) < (q.size : Int) := by omega
                              have Y3 : Hid ((q.size : Int) = 6) := y3'
                              clear y3'
                              cases y4 : (bt q 0 == 43) with
                              | true =>
                                have HI : Hid (zoneB q.size (bt q) = (tdB (bt q 1) (bt q 2) 23 && (decide (bt q 3 = 58) && tdB (bt q 4) (bt q 5) 59))) := zone_in q y1 y2 Y3.out (.inl y4)
                                go_wp2_with fail
                                refine (two_ext q 1 3 23 _ (by omega) rfl).mono ?_
                                rintro e wa ⟨rfl, na, rfl⟩
                                cases u1 : tdB (bt q 1) (bt q (1 + 1)) 23 with
                                | false =>
                                  go_wp2
                                  go_ret
                                  exact ⟨ret_boolT (by rw [HZ.out, HI.out]; simp at u1; simp [u1]), _, rfl⟩
                                | true =>
                                  cases u2 : (bt q 3 == 58) with
                                  | false =>
                                    go_wp2
                                    go_ret
                                    exact ⟨ret_boolT (by rw [HZ.out, HI.out]; simp at u2; simp [u2]), _, rfl⟩
                                  | true =>
                                    have HU : Hid (todB s.size (bt s) = tdB (bt q 4) (bt q 5) 59) := by
                                      show _ = _
                                      rw [HZ.out, HI.out]
                                      simp at u1 u2
                                      simp [u1, u2]
                                    go_wp2_with fail
                                    refine (two_ext q 4 6 59 _ (by omega) rfl).mono ?_
                                    rintro e wb ⟨rfl, nb, rfl⟩
                                    go_wp2
                                    go_ret
                                    exact ⟨ret_boolT HU.out.symm, _, rfl⟩
                              | false =>
                                cases y5 : (bt q 0 == 45) with
                                | true =>
                                  have HI : Hid (zoneB q.size (bt q) = (tdB (bt q 1) (bt q 2) 23 && (decide (bt q 3 = 58) && tdB (bt q 4) (bt q 5) 59))) := zone_in q y1 y2 Y3.out (.inr y5)
                                  go_wp2_with fail
                                  refine (two_ext q 1 3 23 _ (by omega) rfl).mono ?_
                                  rintro e wa ⟨rfl, na, rfl⟩
                                  cases u1 : tdB (bt q 1) (bt q (1 + 1)) 23 with
                                  | false =>
                                    go_wp2
                                    go_ret
                                    exact ⟨ret_boolT (by rw [HZ.out, HI.out]; simp at u1; simp [u1]), _, rfl⟩
                                  | true =>
                                    cases u2 : (bt q 3 == 58) with
                                    | false =>
                                      go_wp2
                                      go_ret
                                      exact ⟨ret_boolT (by rw [HZ.out, HI.out]; simp at u2; simp [u2]), _, rfl⟩
                                    | true =>
                                      have HU : Hid (todB s.size (bt s) = tdB (bt q 4) (bt q 5) 59) := by
                                        show _ = _
                                        rw [HZ.out, HI.out]
                                        simp at u1 u2
                                        simp [u1, u2]
                                      go_wp2_with fail
                                      refine (two_ext q 4 6 59 _ (by omega) rfl).mono ?_
                                      rintro e wb ⟨rfl, nb, rfl⟩
                                      go_wp2
                                      go_ret
                                      exact ⟨ret_boolT HU.out.symm, _, rfl⟩
                                | false =>
                                  go_wp2
                                  go_ret
                                  exact ⟨ret_boolT (by rw [HZ.out, zone_sign q y1 y2 y4 y5]), _, rfl⟩
                      · clear hdig
                        cases y1 : (q.toList == [90]) with
                        | true =>
                          go_wp2
                          go_ret
                          exact ⟨ret_boolT (by rw [HZ.out, zone_Z q y1]), _, rfl⟩
                        | false =>
                          cases y2 : (q.toList == [122]) with
                          | true =>
                            go_wp2
                            go_ret
                            exact ⟨ret_boolT (by rw [HZ.out, zone_z q y2]), _, rfl⟩
                          | false =>
                            cases y3 : ((q.size : Int) == 6) with
                            | false =>
                              go_wp2
                              go_ret
                              exact ⟨ret_boolT (by rw [HZ.out, zone_len q y1 y2 y3]), _, rfl⟩
                            | true =>
                              have y3' : (q.size : Int) = 6 := by simpa using y3
                              have y4' : (3 : Int) ≤ (q.size : Int) := by omega
                              have y5' : (6 : Int) ≤ (q.size : Int) := by omega
                              have y6' : (3 : Int) < (q.size : Int) := by omega
                              have Y3 : Hid ((q.size : Int) = 6) := y3'
                              clear y3'
                              cases y4 : (bt q 0 == 43) with
                              | true =>
                                have HI : Hid (zoneB q.size (bt q) = (tdB (bt q 1) (bt q 2) 23 && (decide (bt q 3 = 58) && tdB (bt q 4) (bt q 5) 59))) := zone_in q y1 y2 Y3.out (.inl y4)
                                go_wp2_with fail
                                refine (two_ext q 1 3 23 _ (by omega) rfl).mono ?_
                                rintro e wa ⟨rfl, na, rfl⟩
                                cases u1 : tdB (bt q 1) (bt q (1 + 1)) 23 with
                                | false =>
                                  go_wp2
                                  go_ret
                                  exact ⟨ret_boolT (by rw [HZ.out, HI.out]; simp at u1; simp [u1]), _, rfl⟩
                                | true =>
                                  cases u2 : (bt q 3 == 58) with
                                  | false =>
                                    go_wp2
                                    go_ret
                                    exact ⟨ret_boolT (by rw [HZ.out, HI.out]; simp at u2; simp [u2]), _, rfl⟩
                                  | true =>
                                    have HU : Hid (todB s.size (bt s) = tdB (bt q 4) (bt q 5) 59) := by
                                      show _ = _
                                      rw [HZ.out, HI.out]
                                      simp at u1 u2
                                      simp [u1, u2]
                                    go_wp2_with fail
                                    refine (two_ext q 4 6 59 _ (by omega) rfl).mono ?_
                                    rintro e wb ⟨rfl, nb, rfl⟩
                                    go_wp2
                                    go_ret
                                    exact ⟨ret_boolT HU.out.symm, _, rfl⟩
                              | false =>
                                cases y5 : (bt q 0 == 45) with
                                | true =>
                                  have HI : Hid (zoneB q.size (bt q) = (tdB (bt q 1) (bt q 2) 23 && (decide (bt q 3 = 58) && tdB (bt q 4) (bt q 5) 59))) := zone_in q y1 y2 Y3.out (.inr y5)
                                  go_wp2_with fail
                                  refine (two_ext q 1 3 23 _ (by omega) rfl).mono ?_
                                  rintro e wa ⟨rfl, na, rfl⟩
                                  cases u1 : tdB (bt q 1) (bt q (1 + 1)) 23 with
                                  | false =>
                                    go_wp2
                                    go_ret
                                    exact ⟨ret_boolT (by rw [HZ.out, HI.out]; simp at u1; simp [u1]), _, rfl⟩
                                  | true =>
                                    cases u2 : (bt q 3 == 58) with
                                    | false =>
                                      go_wp2
                                      go_ret
                                      exact ⟨ret_boolT (by rw [HZ.out, HI.out]; simp at u2; simp [u2]), _, rfl⟩
                                    | true =>
                                      have HU : Hid (todB s.size (bt s) = tdB (bt q 4) (bt q 5) 59) := by
                                        show _ = _
                                        rw [HZ.out, HI.out]
                                        simp at u1 u2
                                        simp [u1, u2]
                                      go_wp2_with fail
                                      refine (two_ext q 4 6 59 _ (by omega) rfl).mono ?_
                                      rintro e wb ⟨rfl, nb, rfl⟩
                                      go_wp2
                                      go_ret
                                      exact ⟨ret_boolT HU.out.symm, _, rfl⟩
                                | false =>
                                  go_wp2
                                  go_ret
                                  exact ⟨ret_boolT (by rw [HZ.out, zone_sign q y1 y2 y4 y5]), _, rfl⟩
                    · clear hdig
                      cases y1 : (q.toList == [90]) with
                      | true =>
                        go_wp2
                        go_ret
                        exact ⟨ret_boolT (by rw [HZ.out, zone_Z q y1]), _, rfl⟩
                      | false =>
                        cases y2 : (q.toList == [122]) with
                        | true =>
                          go_wp2
                          go_ret
                          exact ⟨ret_boolT (by rw [HZ.out, zone_z q y2]), _, rfl⟩
                        | false =>
                          cases y3 : ((q.size : Int) == 6) with
                          | false =>
                            go_wp2
                            go_ret
                            exact ⟨ret_boolT (by rw [HZ.out, zone_len q y1 y2 y3]), _, rfl⟩
                          | true =>
                            have y3' : (q.size : Int) = 6 := by simpa using y3
                            have y4' : (3 : Int) ≤ (q.size : Int) := by omega
                            have y5' : (6 : Int) ≤ (q.size : Int) := by omega
                            have y6' : (3 : Int) < (q.size : Int) := by omega
                            have Y3 : Hid ((q.size : Int) = 6) := y3'
                            clear y3'
                            cases y4 : (bt q 0 == 43) with
                            | true =>
                              have HI : Hid (zoneB q.size (bt q) = (tdB (bt q 1) (bt q 2) 23 && (decide (bt q 3 = 58) && tdB (bt q 4) (bt q 5) 59))) := zone_in q y1 y2 Y3.out (.inl y4)
                              go_wp2_with fail
                              refine (two_ext q 1 3 23 _ (by omega) rfl).mono ?_
                              rintro e wa ⟨rfl, na, rfl⟩
                              cases u1 : tdB (bt q 1) (bt q (1 + 1)) 23 with
                              | false =>
                                go_wp2
                                go_ret
                                exact ⟨ret_boolT (by rw [HZ.out, HI.out]; simp at u1; simp [u1]), _, rfl⟩
                              | true =>
                                cases u2 : (bt q 3 == 58) with
                                | false =>
                                  go_wp2
                                  go_ret
                                  exact ⟨ret_boolT (by rw [HZ.out, HI.out]; simp at u2; simp [u2]), _, rfl⟩
                                | true =>
                                  have HU : Hid (todB s.size (bt s) = tdB (bt q 4) (bt q 5) 59) := by
                                    show _ = _
                                    rw [HZ.out, HI.out]
                                    simp at u1 u2
                                    simp [u1, u2]
                                  go_wp2_with fail
                                  refine (two_ext q 4 6 59 _ (by omega) rfl).mono ?_
                                  rintro e wb ⟨rfl, nb, rfl⟩
                                  go_wp2
                                  go_ret
                                  exact ⟨ret_boolT HU.out.symm, _, rfl⟩
                            | false =>
                              cases y5 : (bt q 0 == 45) with
                              | true =>
                                have HI : Hid (zoneB q.size (bt q) = (tdB (bt q 1) (bt q 2) 23 && (decide (bt q 3 = 58) && tdB (bt q 4) (bt q 5) 59))) := zone_in q y1 y2 Y3.out (.inr y5)
                                go_wp2_with fail
                                refine (two_ext q 1 3 23 _ (by omega) rfl).mono ?_
                                rintro e wa ⟨rfl, na, rfl⟩
                                cases u1 : tdB (bt q 1) (bt q (1 + 1)) 23 with
                                | false =>
                                  go_wp2
                                  go_ret
                                  exact ⟨ret_boolT (by rw [HZ.out, HI.out]; simp at u1; simp [u1]), _, rfl⟩
                                | true =>
                                  cases u2 : (bt q 3 == 58) with
                                  | false =>
                                    go_wp2
                                    go_ret
                                    exact ⟨ret_boolT (by rw [HZ.out, HI.out]; simp at u2; simp [u2]), _, rfl⟩
                                  | true =>
                                    have HU : Hid (todB s.size (bt s) = tdB (bt q 4) (bt q 5) 59) := by
                                      show _ = _
                                      rw [HZ.out, HI.out]
                                      simp at u1 u2
                                      simp [u1, u2]
                                    go_wp2_with fail
                                    refine (two_ext q 4 6 59 _ (by omega) rfl).mono ?_
                                    rintro e wb ⟨rfl, nb, rfl⟩
                                    go_wp2
                                    go_ret
                                    exact ⟨ret_boolT HU.out.symm, _, rfl⟩
                              | false =>
                                go_wp2
                                go_ret
                                exact ⟨ret_boolT (by rw [HZ.out, zone_sign q y1 y2 y4 y5]), _, rfl⟩

theorem tod_any (s : ByteArray) (w : World) (hs2 : (s.size : Int) ≤ 1048576) :
    Calls Try.prog 20 #[.string s] w fun e w' => e = .returned (.bool (todB s.size (bt s))) ∧ ∃ n, w' = w.drewN n := by
  by_cases hs : (s.size : Int) ≤ 9
  · exact tod_short s w hs
  · cases h0 : (bt s 0 != 84) with
    | false => exact tod_T s w (by omega) hs2 h0
    | true =>
      cases h1 : (bt s 0 != 116) with
      | false => exact tod_t s w (by omega) hs2 h0 h1
      | true => exact tod_noT s w (by omega) h0 h1
end Go.Proofs.Qxb6604254a
