import Derived.Test.Qxb6604254aModPre
namespace Go.Proofs.Qxb6604254a
open Go.RowKit

set_option maxRecDepth 100000 in
set_option maxHeartbeats 4000000 in
theorem model_z (s : ByteArray) (w : World) (hs1 : (1 : Int) ≤ (s.size : Int)) (hs2 : (s.size : Int) ≤ 1048576) (hz0 : (bt s (s.size - 1) == 90) = false) (hz : (bt s (s.size - 1) == 122) = true) :
    Calls Try.prog 9 #[.string s] w fun e w' => e = .returned (.bool (modB s.size (bt s))) ∧ w' = w := by
  have hbt : ∀ i (h : i < s.size), ((s[i]'h).toNat : Int) = bt s i := fun i h => bt_get s i h
  have hn0 : ((s.size : Int) == 0) = false := by rw [beq_eq_false_iff_ne]; omega
  obtain ⟨r, hr⟩ : ∃ r, s.extract 0 (s.size - 1) = r := ⟨_, rfl⟩
  have hrs : r.size = s.size - 1 := by rw [← hr, extract_size s 0 (s.size - 1) (Nat.zero_le _) (by omega)]; omega
  have hr2 : (r.size : Int) ≤ 1048576 := by omega
  have hbr : ∀ i (h : i < r.size), ((r[i]'h).toNat : Int) = bt r i := fun i h => bt_get r i h
  have HM : Hid (modB s.size (bt s) = bodyB r.size (bt r)) := by
    show _ = _
    have hz : bt s (s.size - 1) = 90 ∨ bt s (s.size - 1) = 122 := by simp at hz; omega
    unfold modB
    rw [if_neg (by omega), if_pos hz, hrs, body_prefix s (s.size - 1) (by omega), hr]
  clear hrs
  go_enter Try.func9, Try.ntmps9
  by_cases hr9 : (r.size : Int) < 9
  · have HR : Hid (false = modB s.size (bt s)) := by
      show _ = _
      rw [HM.out]
      unfold bodyB
      rw [decide_eq_false (p := (9 ≤ r.size)) (by omega)]
      rfl
    go_wp2
    go_ret
    exact ⟨ret_boolT HR.out, rfl⟩
  have hr0 : (0 : Int) < (r.size : Int) := by omega
  have hr3 : (3 : Int) < (r.size : Int) := by omega
  have hr6 : (6 : Int) < (r.size : Int) := by omega
  have hr10 : (9 : Int) ≤ (r.size : Int) := by omega
  obtain ⟨q, hq⟩ : ∃ q, r.extract 9 r.size = q := ⟨_, rfl⟩
  have hqs : (q.size : Int) = (r.size : Int) - 9 := by rw [← hq, extract_size r 9 r.size (by omega) (Nat.le_refl _)]; omega
  have hq1 : r.size - 9 = q.size := by omega
  have hq3 : (fun i => bt r (9 + i)) = bt q := by rw [← hq]; exact (bt_rest r 9 (by omega)).symm
  have hq2 : (q.size : Int) ≤ 1048576 := by omega
  have hbq : ∀ i (h : i < q.size), ((q[i]'h).toNat : Int) = bt q i := fun i h => bt_get q i h
  clear hqs
  obtain ⟨v1, hv1⟩ : ∃ v, numF (bt r 1) (bt r 2) = v := ⟨_, rfl⟩
  obtain ⟨v2, hv2⟩ : ∃ v, numF (bt r 4) (bt r 5) = v := ⟨_, rfl⟩
  obtain ⟨v3, hv3⟩ : ∃ v, numF (bt r 7) (bt r 8) = v := ⟨_, rfl⟩
  cases t1 : (bt r 0 != 84) with
  | false =>
    have HB : Hid (modB s.size (bt s) = (decide (0 ≤ v1 ∧ v1 ≤ 23) && (decide (bt r 3 = 58) && (decide (0 ≤ v2 ∧ v2 ≤ 59) && (decide (bt r 6 = 58) && decide (0 ≤ v3 ∧ v3 ≤ 60)))) && fracB q.size (bt q))) := by
      show _ = _
      have hT : bt r 0 = 84 ∨ bt r 0 = 116 := by simp at t1; omega
      rw [HM.out]
      unfold bodyB clockB
      rw [num_td _ _ 23 (by omega), num_td _ _ 59 (by omega), num_td _ _ 60 (by omega), hv1, hv2, hv3, decide_eq_true (p := (9 ≤ r.size)) (by omega), decide_eq_true hT, hq1, hq3]
      simp
    have V1 : Hid (numF (bt r 1) (bt r 2) = v1) := hv1
    have V2 : Hid (numF (bt r 4) (bt r 5) = v2) := hv2
    have V3 : Hid (numF (bt r 7) (bt r 8) = v3) := hv3
    clear hv1 hv2 hv3 hq1 hq3
    go_wp2_with fail
    refine (num2_any r 1 _ v1 _ rfl (by omega) hr2 V1).mono ?_
    rintro e w1 ⟨rfl, rfl⟩
    go_wp2_with fail
    refine (num2_any r 4 _ v2 _ rfl (by omega) hr2 V2).mono ?_
    rintro e w2 ⟨rfl, rfl⟩
    go_wp2_with fail
    refine (num2_any r 7 _ v3 _ rfl (by omega) hr2 V3).mono ?_
    rintro e w3 ⟨rfl, rfl⟩
    by_cases k1 : v1 < 0
    · go_wp2
      go_ret
      exact ⟨ret_boolT (by rw [HB.out, decide_eq_false (p := (0 ≤ v1 ∧ v1 ≤ 23)) (by omega)]; simp), rfl⟩
    by_cases k2 : 23 < v1
    · go_wp2
      go_ret
      exact ⟨ret_boolT (by rw [HB.out, decide_eq_false (p := (0 ≤ v1 ∧ v1 ≤ 23)) (by omega)]; simp), rfl⟩
    cases k3 : (bt r 3 != 58) with
    | true =>
      go_wp2
      go_ret
      exact ⟨ret_boolT (by rw [HB.out, decide_eq_false (p := (bt r 3 = 58)) (by simpa using k3)]; simp), rfl⟩
    | false =>
      by_cases k4 : v2 < 0
      · go_wp2
        go_ret
        exact ⟨ret_boolT (by rw [HB.out, decide_eq_false (p := (0 ≤ v2 ∧ v2 ≤ 59)) (by omega)]; simp), rfl⟩
      by_cases k5 : 59 < v2
      · go_wp2
        go_ret
        exact ⟨ret_boolT (by rw [HB.out, decide_eq_false (p := (0 ≤ v2 ∧ v2 ≤ 59)) (by omega)]; simp), rfl⟩
      cases k6 : (bt r 6 != 58) with
      | true =>
        go_wp2
        go_ret
        exact ⟨ret_boolT (by rw [HB.out, decide_eq_false (p := (bt r 6 = 58)) (by simpa using k6)]; simp), rfl⟩
      | false =>
        by_cases k7 : v3 < 0
        · go_wp2
          go_ret
          exact ⟨ret_boolT (by rw [HB.out, decide_eq_false (p := (0 ≤ v3 ∧ v3 ≤ 60)) (by omega)]; simp), rfl⟩
        by_cases k8 : 60 < v3
        · go_wp2
          go_ret
          exact ⟨ret_boolT (by rw [HB.out, decide_eq_false (p := (0 ≤ v3 ∧ v3 ≤ 60)) (by omega)]; simp), rfl⟩
        have HF : Hid (modB s.size (bt s) = fracB q.size (bt q)) := by
          show _ = _
          have x3 : bt r 3 = 58 := by simpa using k3
          have x6 : bt r 6 = 58 := by simpa using k6
          rw [HB.out, decide_eq_true (p := (0 ≤ v1 ∧ v1 ≤ 23)) (by omega), decide_eq_true (p := (0 ≤ v2 ∧ v2 ≤ 59)) (by omega), decide_eq_true (p := (0 ≤ v3 ∧ v3 ≤ 60)) (by omega), decide_eq_true x3, decide_eq_true x6]
          simp
        cases f0 : ((q.size : Int) == 0) with
        | true =>
          have HR : Hid (true = modB s.size (bt s)) := by
            show _ = _
            have e0 : q.size = 0 := by rw [beq_iff_eq] at f0; omega
            rw [HF.out, (fracB_iff _ _).2 (.inl e0)]
          go_wp2
          go_ret
          exact ⟨ret_boolT HR.out, rfl⟩
        | false =>
          have f0' : (0 : Int) < (q.size : Int) := by rw [beq_eq_false_iff_ne] at f0; omega
          cases f1 : (bt q 0 != 46) with
          | true =>
            have HR : Hid (false = modB s.size (bt s)) := by
              show _ = _
              have e1 : ¬ bt q 0 = 46 := by simpa using f1
              have e0 : ¬ q.size = 0 := by omega
              rw [HF.out, eq_comm, Bool.eq_false_iff]
              intro h
              rcases (fracB_iff _ _).1 h with h | h
              · exact e0 h
              · exact e1 h.2.1
            go_wp2
            go_ret
            exact ⟨ret_boolT HR.out, rfl⟩
          | false =>
            cases f2 : ((q.size : Int) == 1) with
            | true =>
              have HR : Hid (false = modB s.size (bt s)) := by
                show _ = _
                have e0 : q.size = 1 := by rw [beq_iff_eq] at f2; omega
                rw [HF.out, eq_comm, Bool.eq_false_iff]
                intro h
                rcases (fracB_iff _ _).1 h with h | h
                · omega
                · omega
              go_wp2
              go_ret
              exact ⟨ret_boolT HR.out, rfl⟩
            | false =>
              have F1 : Hid (bt q 0 = 46) := by
                show _ = _
                simpa using f1
              have F2 : Hid (2 ≤ q.size) := by
                show _ ≤ _
                have : ¬ (q.size : Int) = 1 := by rw [beq_eq_false_iff_ne] at f2; exact f2
                omega
              go_wp2
              go_loop [13] (fun vk => ∃ k : Nat, vk = .int .i64 (k : Int) ∧ 1 ≤ k ∧ k ≤ q.size ∧ Hid (∀ i, i < k → 1 ≤ i → 48 ≤ bt q i ∧ bt q i ≤ 57)) (fun vk => q.size - (intOf vk).toNat)
              case atStart => exact ⟨1, rfl, Nat.le_refl _, by omega, fun i h1 h2 => absurd h1 (by omega)⟩
              case round =>
                obtain ⟨k, rfl, hk1, hk2, HK⟩ := hrel
                by_cases hlt : (k : Int) < (q.size : Int)
                · have hb0 := (bt_bd q k).1
                  have hb1 := (bt_bd q k).2
                  obtain ⟨x, hx⟩ : ∃ x, digF (bt q k) = x := ⟨_, rfl⟩
                  have hxb := digF_bd (bt q k) hb0 hb1
                  rw [hx] at hxb
                  obtain ⟨hxb0, hxb1⟩ := hxb
                  have HX : Hid (digF (bt q k) = x) := hx
                  clear hx
                  go_wp2_with fail
                  refine (digit_any (bt q k) _ hb0 hb1).mono ?_
                  rw [HX.out]
                  rintro e w9 ⟨rfl, rfl⟩
                  by_cases hneg : x < 0
                  · have HR : Hid (false = modB s.size (bt s)) := by
                      show _ = _
                      have hbad : ¬ (48 ≤ bt q k ∧ bt q k ≤ 57) := by
                        have := (dig_neg (bt q k)).1 (by rw [HX.out]; exact hneg)
                        omega
                      rw [HF.out, eq_comm, Bool.eq_false_iff]
                      intro h
                      rcases (fracB_iff _ _).1 h with h | h
                      · omega
                      · exact hbad (h.2.2 k (by omega) hk1)
                    go_wp2
                    go_ret
                    exact ⟨ret_boolT HR.out, rfl⟩
                  · have HG : Hid (48 ≤ bt q k ∧ bt q k ≤ 57) := by
                      show _ ∧ _
                      have : ¬ (bt q k < 48 ∨ 57 < bt q k) := fun h => hneg (by have := (dig_neg (bt q k)).2 h; rw [HX.out] at this; exact this)
                      omega
                    go_wp2
                    go_round
                    case rel =>
                      refine ⟨k + 1, by go_num, by omega, by omega, fun i h1 h2 => ?_⟩
                      by_cases e : i = k
                      · rw [e]; exact HG.out
                      · exact HK.out i (by omega) h2
                    case measure => simp [intOf]; omega
                · have HR : Hid (true = modB s.size (bt s)) := by
                    show _ = _
                    have e : k = q.size := by omega
                    have hk := HK.out
                    rw [e] at hk
                    rw [HF.out, (fracB_iff _ _).2 (.inr ⟨F2.out, F1.out, hk⟩)]
                  go_wp2
                  go_ret
                  exact ⟨ret_boolT HR.out, rfl⟩
  | true =>
    cases t2 : (bt r 0 != 116) with
    | false =>
      have HB : Hid (modB s.size (bt s) = (decide (0 ≤ v1 ∧ v1 ≤ 23) && (decide (bt r 3 = 58) && (decide (0 ≤ v2 ∧ v2 ≤ 59) && (decide (bt r 6 = 58) && decide (0 ≤ v3 ∧ v3 ≤ 60)))) && fracB q.size (bt q))) := by
        show _ = _
        have hT : bt r 0 = 84 ∨ bt r 0 = 116 := by simp at t2; omega
        rw [HM.out]
        unfold bodyB clockB
        rw [num_td _ _ 23 (by omega), num_td _ _ 59 (by omega), num_td _ _ 60 (by omega), hv1, hv2, hv3, decide_eq_true (p := (9 ≤ r.size)) (by omega), decide_eq_true hT, hq1, hq3]
        simp
      have V1 : Hid (numF (bt r 1) (bt r 2) = v1) := hv1
      have V2 : Hid (numF (bt r 4) (bt r 5) = v2) := hv2
      have V3 : Hid (numF (bt r 7) (bt r 8) = v3) := hv3
      clear hv1 hv2 hv3 hq1 hq3
      go_wp2_with fail
      refine (num2_any r 1 _ v1 _ rfl (by omega) hr2 V1).mono ?_
      rintro e w1 ⟨rfl, rfl⟩
      go_wp2_with fail
      refine (num2_any r 4 _ v2 _ rfl (by omega) hr2 V2).mono ?_
      rintro e w2 ⟨rfl, rfl⟩
      go_wp2_with fail
      refine (num2_any r 7 _ v3 _ rfl (by omega) hr2 V3).mono ?_
      rintro e w3 ⟨rfl, rfl⟩
      by_cases k1 : v1 < 0
      · go_wp2
        go_ret
        exact ⟨ret_boolT (by rw [HB.out, decide_eq_false (p := (0 ≤ v1 ∧ v1 ≤ 23)) (by omega)]; simp), rfl⟩
      by_cases k2 : 23 < v1
      · go_wp2
        go_ret
        exact ⟨ret_boolT (by rw [HB.out, decide_eq_false (p := (0 ≤ v1 ∧ v1 ≤ 23)) (by omega)]; simp), rfl⟩
      cases k3 : (bt r 3 != 58) with
      | true =>
        go_wp2
        go_ret
        exact ⟨ret_boolT (by rw [HB.out, decide_eq_false (p := (bt r 3 = 58)) (by simpa using k3)]; simp), rfl⟩
      | false =>
        by_cases k4 : v2 < 0
        · go_wp2
          go_ret
          exact ⟨ret_boolT (by rw [HB.out, decide_eq_false (p := (0 ≤ v2 ∧ v2 ≤ 59)) (by omega)]; simp), rfl⟩
        by_cases k5 : 59 < v2
        · go_wp2
          go_ret
          exact ⟨ret_boolT (by rw [HB.out, decide_eq_false (p := (0 ≤ v2 ∧ v2 ≤ 59)) (by omega)]; simp), rfl⟩
        cases k6 : (bt r 6 != 58) with
        | true =>
          go_wp2
          go_ret
          exact ⟨ret_boolT (by rw [HB.out, decide_eq_false (p := (bt r 6 = 58)) (by simpa using k6)]; simp), rfl⟩
        | false =>
          by_cases k7 : v3 < 0
          · go_wp2
            go_ret
            exact ⟨ret_boolT (by rw [HB.out, decide_eq_false (p := (0 ≤ v3 ∧ v3 ≤ 60)) (by omega)]; simp), rfl⟩
          by_cases k8 : 60 < v3
          · go_wp2
            go_ret
            exact ⟨ret_boolT (by rw [HB.out, decide_eq_false (p := (0 ≤ v3 ∧ v3 ≤ 60)) (by omega)]; simp), rfl⟩
          have HF : Hid (modB s.size (bt s) = fracB q.size (bt q)) := by
            show _ = _
            have x3 : bt r 3 = 58 := by simpa using k3
            have x6 : bt r 6 = 58 := by simpa using k6
            rw [HB.out, decide_eq_true (p := (0 ≤ v1 ∧ v1 ≤ 23)) (by omega), decide_eq_true (p := (0 ≤ v2 ∧ v2 ≤ 59)) (by omega), decide_eq_true (p := (0 ≤ v3 ∧ v3 ≤ 60)) (by omega), decide_eq_true x3, decide_eq_true x6]
            simp
          cases f0 : ((q.size : Int) == 0) with
          | true =>
            have HR : Hid (true = modB s.size (bt s)) := by
              show _ = _
              have e0 : q.size = 0 := by rw [beq_iff_eq] at f0; omega
              rw [HF.out, (fracB_iff _ _).2 (.inl e0)]
            go_wp2
            go_ret
            exact ⟨ret_boolT HR.out, rfl⟩
          | false =>
            have f0' : (0 : Int) < (q.size : Int) := by rw [beq_eq_false_iff_ne] at f0; omega
            cases f1 : (bt q 0 != 46) with
            | true =>
              have HR : Hid (false = modB s.size (bt s)) := by
                show _ = _
                have e1 : ¬ bt q 0 = 46 := by simpa using f1
                have e0 : ¬ q.size = 0 := by omega
                rw [HF.out, eq_comm, Bool.eq_false_iff]
                intro h
                rcases (fracB_iff _ _).1 h with h | h
                · exact e0 h
                · exact e1 h.2.1
              go_wp2
              go_ret
              exact ⟨ret_boolT HR.out, rfl⟩
            | false =>
              cases f2 : ((q.size : Int) == 1) with
              | true =>
                have HR : Hid (false = modB s.size (bt s)) := by
                  show _ = _
                  have e0 : q.size = 1 := by rw [beq_iff_eq] at f2; omega
                  rw [HF.out, eq_comm, Bool.eq_false_iff]
                  intro h
                  rcases (fracB_iff _ _).1 h with h | h
                  · omega
                  · omega
                go_wp2
                go_ret
                exact ⟨ret_boolT HR.out, rfl⟩
              | false =>
                have F1 : Hid (bt q 0 = 46) := by
                  show _ = _
                  simpa using f1
                have F2 : Hid (2 ≤ q.size) := by
                  show _ ≤ _
                  have : ¬ (q.size : Int) = 1 := by rw [beq_eq_false_iff_ne] at f2; exact f2
                  omega
                go_wp2
                go_loop [13] (fun vk => ∃ k : Nat, vk = .int .i64 (k : Int) ∧ 1 ≤ k ∧ k ≤ q.size ∧ Hid (∀ i, i < k → 1 ≤ i → 48 ≤ bt q i ∧ bt q i ≤ 57)) (fun vk => q.size - (intOf vk).toNat)
                case atStart => exact ⟨1, rfl, Nat.le_refl _, by omega, fun i h1 h2 => absurd h1 (by omega)⟩
                case round =>
                  obtain ⟨k, rfl, hk1, hk2, HK⟩ := hrel
                  by_cases hlt : (k : Int) < (q.size : Int)
                  · have hb0 := (bt_bd q k).1
                    have hb1 := (bt_bd q k).2
                    obtain ⟨x, hx⟩ : ∃ x, digF (bt q k) = x := ⟨_, rfl⟩
                    have hxb := digF_bd (bt q k) hb0 hb1
                    rw [hx] at hxb
                    obtain ⟨hxb0, hxb1⟩ := hxb
                    have HX : Hid (digF (bt q k) = x) := hx
                    clear hx
                    go_wp2_with fail
                    refine (digit_any (bt q k) _ hb0 hb1).mono ?_
                    rw [HX.out]
                    rintro e w9 ⟨rfl, rfl⟩
                    by_cases hneg : x < 0
                    · have HR : Hid (false = modB s.size (bt s)) := by
                        show _ = _
                        have hbad : ¬ (48 ≤ bt q k ∧ bt q k ≤ 57) := by
                          have := (dig_neg (bt q k)).1 (by rw [HX.out]; exact hneg)
                          omega
                        rw [HF.out, eq_comm, Bool.eq_false_iff]
                        intro h
                        rcases (fracB_iff _ _).1 h with h | h
                        · omega
                        · exact hbad (h.2.2 k (by omega) hk1)
                      go_wp2
                      go_ret
                      exact ⟨ret_boolT HR.out, rfl⟩
                    · have HG : Hid (48 ≤ bt q k ∧ bt q k ≤ 57) := by
                        show _ ∧ _
                        have : ¬ (bt q k < 48 ∨ 57 < bt q k) := fun h => hneg (by have := (dig_neg (bt q k)).2 h; rw [HX.out] at this; exact this)
                        omega
                      go_wp2
                      go_round
                      case rel =>
                        refine ⟨k + 1, by go_num, by omega, by omega, fun i h1 h2 => ?_⟩
                        by_cases e : i = k
                        · rw [e]; exact HG.out
                        · exact HK.out i (by omega) h2
                      case measure => simp [intOf]; omega
                  · have HR : Hid (true = modB s.size (bt s)) := by
                      show _ = _
                      have e : k = q.size := by omega
                      have hk := HK.out
                      rw [e] at hk
                      rw [HF.out, (fracB_iff _ _).2 (.inr ⟨F2.out, F1.out, hk⟩)]
                    go_wp2
                    go_ret
                    exact ⟨ret_boolT HR.out, rfl⟩
    | true =>
      have HR : Hid (false = modB s.size (bt s)) := by
        show _ = _
        rw [HM.out]
        unfold bodyB clockB
        rw [decide_eq_false (p := (bt r 0 = 84 ∨ bt r 0 = 116)) (by simp at t1 t2; omega)]
        simp
      clear hv1 hv2 hv3 hq1 hq3
      go_wp2
      go_ret
      exact ⟨ret_boolT HR.out, rfl⟩
end Go.Proofs.Qxb6604254a
