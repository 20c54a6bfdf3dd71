import Derived.Test.Qxb6604194aSatWalk
import Derived.Test.Qxb6604194aLcmI
namespace Go.Proofs.Qxb6604194a
open Go.RowKit

theorem ret_boolP {a b : Bool} (h : a = b) : Ending.returned (.bool a) = .returned (.bool b) := by rw [h]

/-- Too many subscribers, or no network of a kind: true at once. -/
theorem prod_out (n s h m v q c r : Int) (f a x u g : Bool) (w : World) (ho : 65536 < n ∨ h < 1 ∨ s < 1) :
    Calls Try.prog 4 #[.agg #[.int .i64 n, .int .i64 s, .int .i64 h, .int .u8 m, .int .u8 v, .int .i64 q, .bool f, .int .i64 c, .bool a, .bool x, .int .u8 r, .bool u, .bool g]] w fun e w' => e = .returned (.bool true) ∧ Below w.heap.size w w' := by
  by_cases h1 : 65536 < n
  · go_enter Try.func4, Try.ntmps4
    go_wp2
    go_ret
    exact ⟨rfl, (Below.refl _ _).alloc (Nat.le_refl _) _⟩
  · by_cases h2 : h < 1
    · go_enter Try.func4, Try.ntmps4
      go_wp2
      go_ret
      exact ⟨rfl, (Below.refl _ _).alloc (Nat.le_refl _) _⟩
    · have h3 : s < 1 := by omega
      clear ho
      go_enter Try.func4, Try.ntmps4
      go_wp2
      go_ret
      exact ⟨rfl, (Below.refl _ _).alloc (Nat.le_refl _) _⟩

set_option maxHeartbeats 1000000 in
/-- No subscriber. -/
theorem prod_none (n s h m v q c r : Int) (f a x u g : Bool) (w : World) (hs : 1 ≤ s) (hh : 1 ≤ h) (hn1 : -9223372036854775808 ≤ n) (hn2 : n ≤ 0) (hs2 : s ≤ 9223372036854775807) (hh2 : h ≤ 9223372036854775807) :
    Calls Try.prog 4 #[.agg #[.int .i64 n, .int .i64 s, .int .i64 h, .int .u8 m, .int .u8 v, .int .i64 q, .bool f, .int .i64 c, .bool a, .bool x, .int .u8 r, .bool u, .bool g]] w fun e w' => e = .returned (.bool true) ∧ Below w.heap.size w w' := by
  have h1 : ¬ 65536 < n := by omega
  have h2 : ¬ h < 1 := by omega
  have h3 : ¬ s < 1 := by omega
  have h4 : ¬ 1 < n := by omega
  go_enter Try.func4, Try.ntmps4
  go_wp2_with fail
  refine (topology_below n s h m v q c r f a x u g _).mono ?_
  rintro e w1 ⟨rfl, hb1⟩
  obtain ⟨hc1, hf1⟩ := bcell hb1
  have hz1 : w.heap.size < w1.heap.size := by have := hb1.size; simp at this; omega
  go_wp2_with fail
  refine (zzperms_none n s h m v q c r f a x u g _ hs hh hn1 hn2 hs2 hh2).mono ?_
  rintro e w2 ⟨rfl, hb2⟩
  obtain ⟨hc2, hf2⟩ := bcell hb2
  have hz2 : w.heap.size < w2.heap.size := by have := hb2.size; omega
  go_wp2
  go_ret
  exact ⟨rfl, (((Below.refl _ _).alloc (Nat.le_refl _) _).trans (hb1.mono (by simp))).trans (hb2.mono (by omega))⟩

set_option maxHeartbeats 1000000 in
/-- One subscriber. -/
theorem prod_single (N : Nat) (s h m v q c r : Int) (f a x u g : Bool) (w : World) (hs : 1 ≤ s) (hh : 1 ≤ h) (hN : N = 1) (hs2 : s ≤ 9223372036854775807) (hh2 : h ≤ 9223372036854775807)
    (HP : Hid (perF (N : Int) h s = (N : Int))) :
    Calls Try.prog 4 #[.agg #[.int .i64 (N : Int), .int .i64 s, .int .i64 h, .int .u8 m, .int .u8 v, .int .i64 q, .bool f, .int .i64 c, .bool a, .bool x, .int .u8 r, .bool u, .bool g]] w fun e w' => e = .returned (.bool true) ∧ Below w.heap.size w w' := by
  have h1 : ¬ (65536 : Int) < (N : Int) := by omega
  have h2 : ¬ h < 1 := by omega
  have h3 : ¬ s < 1 := by omega
  have h4 : ¬ (1 : Int) < (N : Int) := by omega
  have HN : Hid (N = 1) := hN
  clear hN
  go_enter Try.func4, Try.ntmps4
  go_wp2_with fail
  refine (topology_below (N : Int) s h m v q c r f a x u g _).mono ?_
  rintro e w1 ⟨rfl, hb1⟩
  obtain ⟨hc1, hf1⟩ := bcell hb1
  have hz1 : w.heap.size < w1.heap.size := by have := hb1.size; simp at this; omega
  go_wp2_with fail
  refine (zzperms_some N N s h m v q c r f a x u g _ hs hh (by have := HN.out; omega) (by have := HN.out; omega) hs2 hh2 HP (by have := HN.out; omega) (Nat.le_refl _)).mono ?_
  rintro e w2 ⟨k, rfl, hk, hb2⟩
  obtain rfl := ans_one N k (by have := HN.out; omega) hk
  obtain ⟨hc2, hf2⟩ := bcell hb2
  have hz2 : w.heap.size < w2.heap.size := by have := hb2.size; omega
  clear hk
  go_wp2
  go_ret
  exact ⟨rfl, (((Below.refl _ _).alloc (Nat.le_refl _) _).trans (hb1.mono (by simp))).trans (hb2.mono (by omega))⟩

set_option maxHeartbeats 1000000 in
/-- Two subscribers or more; the least common multiple does not fit. -/
theorem prod_notfit (N : Nat) (s h m v q c r : Int) (f a x u g : Bool) (w : World) (hs : 1 ≤ s) (hh : 1 ≤ h) (hN1 : 2 ≤ N) (hN2 : N ≤ 65536) (hs2 : s ≤ 9223372036854775807) (hh2 : h ≤ 9223372036854775807)
    (HF : Hid (¬ Fit (N : Int) h s)) (HP : Hid (perF (N : Int) h s = (N : Int))) :
    Calls Try.prog 4 #[.agg #[.int .i64 (N : Int), .int .i64 s, .int .i64 h, .int .u8 m, .int .u8 v, .int .i64 q, .bool f, .int .i64 c, .bool a, .bool x, .int .u8 r, .bool u, .bool g]] w fun e w' => e = .returned (.bool true) ∧ Below w.heap.size w w' := by
  have h1 : ¬ (65536 : Int) < (N : Int) := by omega
  have h2 : ¬ h < 1 := by omega
  have h3 : ¬ s < 1 := by omega
  have h4 : (1 : Int) < (N : Int) := by omega
  go_enter Try.func4, Try.ntmps4
  go_wp2_with fail
  refine (topology_below (N : Int) s h m v q c r f a x u g _).mono ?_
  rintro e w1 ⟨rfl, hb1⟩
  obtain ⟨hc1, hf1⟩ := bcell hb1
  have hz1 : w.heap.size < w1.heap.size := by have := hb1.size; simp at this; omega
  go_wp2_with fail
  refine (zzperms_some N N s h m v q c r f a x u g _ hs hh (by omega) (by omega) hs2 hh2 HP (by omega) (Nat.le_refl _)).mono ?_
  rintro e w2 ⟨k, rfl, hk, hb2⟩
  obtain rfl := ans_one N k (by omega) hk
  obtain ⟨hc2, hf2⟩ := bcell hb2
  have hz2 : w.heap.size < w2.heap.size := by have := hb2.size; omega
  clear hk
  go_wp2_with fail
  refine (lcm_notI h s (N : Int) hs hh (by omega) hs2 hh2 HF.out _).mono ?_
  rintro e w3 ⟨rfl, rfl⟩
  go_wp2
  go_ret
  exact ⟨rfl, (((Below.refl _ _).alloc (Nat.le_refl _) _).trans (hb1.mono (by simp))).trans (hb2.mono (by omega))⟩

set_option maxHeartbeats 2000000 in
/-- Two subscribers or more; the least common multiple fits. -/
theorem prod_fit (N P Q R F0 F1 : Nat) (s h m v q c r : Int) (f a x u g : Bool) (w : World) (hs : 1 ≤ s) (hh : 1 ≤ h) (hN1 : 2 ≤ N) (hN2 : N ≤ 65536) (hs2 : s ≤ 9223372036854775807) (hh2 : h ≤ 9223372036854775807)
    (HF : Hid (Fit (N : Int) h s)) (HP : Hid (perF (N : Int) h s = (P : Int))) (hP1 : 1 ≤ P) (hP2 : P ≤ N)
    (hQ : (N : Int) / (P : Int) = (Q : Int)) (hR : (N : Int) % (P : Int) = (R : Int)) (hQ2 : Q ≤ 65536) (H0 : Hid (sat (fac Q) = F0)) (H1 : Hid (sat (fac (Q + 1)) = F1)) (hF0 : 1 ≤ F0 ∧ F0 ≤ 721) (hF1 : 1 ≤ F1 ∧ F1 ≤ 721)
    (HS : Hid (∀ i, i < P → sz N P i = if i < R then Q + 1 else Q)) :
    Calls Try.prog 4 #[.agg #[.int .i64 (N : Int), .int .i64 s, .int .i64 h, .int .u8 m, .int .u8 v, .int .i64 q, .bool f, .int .i64 c, .bool a, .bool x, .int .u8 r, .bool u, .bool g]] w fun e w' => e = .returned (.bool true) ∧ Below w.heap.size w w' := by
  have h1 : ¬ (65536 : Int) < (N : Int) := by omega
  have h2 : ¬ h < 1 := by omega
  have h3 : ¬ s < 1 := by omega
  have h4 : (1 : Int) < (N : Int) := by omega
  obtain ⟨hF00, hF01⟩ := hF0
  obtain ⟨hF10, hF11⟩ := hF1
  go_enter Try.func4, Try.ntmps4
  go_wp2_with fail
  refine (topology_below (N : Int) s h m v q c r f a x u g _).mono ?_
  rintro e w1 ⟨rfl, hb1⟩
  obtain ⟨hc1, hf1⟩ := bcell hb1
  have hz1 : w.heap.size < w1.heap.size := by have := hb1.size; simp at this; omega
  go_wp2_with fail
  refine (zzperms_some N P s h m v q c r f a x u g _ hs hh (by omega) (by omega) hs2 hh2 HP hP1 hP2).mono ?_
  rintro e w2 ⟨k, rfl, hk, hb2⟩
  obtain ⟨hc2, hf2⟩ := bcell hb2
  have hz2 : w.heap.size < w2.heap.size := by have := hb2.size; omega
  have HK : Hid (PermAns N P k) := hk
  clear hk
  go_wp2_with fail
  refine (lcm_fitI h s (N : Int) (P : Int) hs hh (by omega) hs2 hh2 HF.out HP _).mono ?_
  rintro e w3 ⟨rfl, rfl⟩
  go_wp2_with fail
  refine (satfact Q F0 (by omega) H0 _).mono ?_
  rintro e w4 ⟨rfl, rfl⟩
  go_wp2_with fail
  rw [show ((Q : Int) + 1) = ((Q + 1 : Nat) : Int) from by omega]
  refine (satfact (Q + 1) F1 (by omega) H1 _).mono ?_
  rintro e w5 ⟨rfl, rfl⟩
  have hbel : Below w.heap.size w w5 := (((Below.refl _ _).alloc (Nat.le_refl _) _).trans (hb1.mono (by simp))).trans (hb2.mono (by omega))
  clear hb1 hb2 hc1 hc2 hf1 hf2 hz1 hz2 hQ hR
  go_wp2
  go_loop [5, 13] (fun vw vc => ∃ i t : Nat, vc = .int .i64 (i : Int) ∧ vw = .int .i64 (t : Int) ∧ i ≤ P ∧ 1 ≤ t ∧ t ≤ 721 ∧ Hid (t = sat (prodF N P i))) (fun _ vc => P - (intOf vc).toNat)
  case atStart => exact ⟨0, 1, rfl, rfl, by omega, by omega, by omega, rfl⟩
  case round =>
    obtain ⟨i, t, rfl, rfl, hi, ht1, ht2, HT⟩ := hrel
    by_cases hlt : (i : Int) < (P : Int)
    · by_cases hsm : (t : Int) ≤ 720
      · by_cases hir : (i : Int) < (R : Int)
        · obtain ⟨Y, hY⟩ : ∃ Y, sat (t * F1) = Y := ⟨_, rfl⟩
          have hY1 : Y ≤ 721 := by rw [← hY]; exact sat_le _
          have hY2 : 1 ≤ Y := by rw [← hY]; exact sat_pos _ (Nat.mul_pos (by omega) (by omega))
          have HY0 : Hid (sat (t * F1) = Y) := hY
          clear hY
          go_wp2_with fail
          refine (satmul t F1 Y (by omega) (by omega) (by omega) (by omega) HY0 _).mono ?_
          rintro e w6 ⟨rfl, rfl⟩
          go_wp2
          go_round
          case rel =>
            have e1 := HS.out i (by omega)
            rw [if_pos (by omega)] at e1
            have e2 := prodF_step N P i (fac (Q + 1)) (by rw [e1])
            rw [← HT.out, H1.out, HY0.out] at e2
            exact ⟨i + 1, Y, by go_num, rfl, by omega, hY2, hY1, e2⟩
          case measure =>
            simp [intOf]
            omega
        · obtain ⟨Y, hY⟩ : ∃ Y, sat (t * F0) = Y := ⟨_, rfl⟩
          have hY1 : Y ≤ 721 := by rw [← hY]; exact sat_le _
          have hY2 : 1 ≤ Y := by rw [← hY]; exact sat_pos _ (Nat.mul_pos (by omega) (by omega))
          have HY0 : Hid (sat (t * F0) = Y) := hY
          clear hY
          go_wp2_with fail
          refine (satmul t F0 Y (by omega) (by omega) (by omega) (by omega) HY0 _).mono ?_
          rintro e w6 ⟨rfl, rfl⟩
          go_wp2
          go_round
          case rel =>
            have e1 := HS.out i (by omega)
            rw [if_neg (by omega)] at e1
            have e2 := prodF_step N P i (fac Q) (by rw [e1])
            rw [← HT.out, H0.out, HY0.out] at e2
            exact ⟨i + 1, Y, by go_num, rfl, by omega, hY2, hY1, e2⟩
          case measure =>
            simp [intOf]
            omega
      · have e1 := HT.out
        have e2 := prodF_early N P i hi (by rw [← e1]; omega)
        have hb := ans_big N P k HK.out (by rw [← e2, ← e1]; omega)
        have hb1 : (720 : Int) < (k : Int) := by omega
        have hb2 : (k : Int) ≤ 720 * (N : Int) := by omega
        clear e1 e2 hb
        go_wp2
        go_ret
        exact ⟨rfl, hbel⟩
    · have ei : i = P := by omega
      have e1 := HT.out
      rw [ei] at e1
      by_cases hsm : (t : Int) ≤ 720
      · have e2 := ans_small N P k HK.out (by rw [← e1]; omega)
        have e3 : k = t := by omega
        clear e1 e2
        subst e3
        clear ei
        go_wp2
        go_ret
        exact ⟨ret_boolP (by simp), hbel⟩
      · have hb := ans_big N P k HK.out (by rw [← e1]; omega)
        have hb1 : (720 : Int) < (k : Int) := by omega
        have hb2 : (k : Int) ≤ 720 * (N : Int) := by omega
        clear e1 hb ei
        go_wp2
        go_ret
        exact ⟨rfl, hbel⟩
end Go.Proofs.Qxb6604194a
