import Derived.Test.Qxb6604254aTwo
import Derived.Test.Qxb6604254aModPlain
namespace Go.Proofs.Qxb6604254a
open Go.RowKit

def digF (x : Int) : Int := if x < 48 ∨ 57 < x then -1 else x - 48
def numF (x y : Int) : Int := if digF x < 0 ∨ digF y < 0 then -1 else digF x * 10 + digF y

theorem dig_neg (x : Int) : digF x < 0 ↔ (x < 48 ∨ 57 < x) := by
  unfold digF
  split <;> omega

theorem num_td (x y most : Int) (hm : 0 ≤ most) : tdB x y most = decide (0 ≤ numF x y ∧ numF x y ≤ most) := by
  rw [Bool.eq_iff_iff, tdB_iff, decide_eq_true_eq]
  unfold numF
  simp only [dig_neg]
  by_cases h : (x < 48 ∨ 57 < x) ∨ (y < 48 ∨ 57 < y)
  · rw [if_pos h]; omega
  · rw [if_neg h]
    unfold digF
    rw [if_neg (by omega), if_neg (by omega)]
    omega

set_option maxHeartbeats 400000 in
theorem digit_any (x : Int) (w : World) (h0 : 0 ≤ x) (h1 : x ≤ 255) :
    Calls Try.prog 22 #[.int .u8 x] w fun e w' => e = .returned (.int .i64 (digF x)) ∧ w' = w := by
  by_cases c1 : x < 48
  · have HD : Hid (-1 = digF x) := by
      show _ = _
      unfold digF; rw [if_pos (.inl c1)]
    go_enter Try.func22, Try.ntmps22
    go_wp2
    go_ret
    exact ⟨by rw [← HD.out]; rfl, rfl⟩
  by_cases c2 : 57 < x
  · have HD : Hid (-1 = digF x) := by
      show _ = _
      unfold digF; rw [if_pos (.inr c2)]
    go_enter Try.func22, Try.ntmps22
    go_wp2
    go_ret
    exact ⟨by rw [← HD.out]; rfl, rfl⟩
  · have HD : Hid (x - 48 = digF x) := by
      show _ = _
      unfold digF; rw [if_neg (by omega)]
    go_enter Try.func22, Try.ntmps22
    go_wp2
    go_ret
    exact ⟨by rw [← HD.out]; rfl, rfl⟩

theorem digF_bd (x : Int) (h0 : 0 ≤ x) (h1 : x ≤ 255) : -1 ≤ digF x ∧ digF x ≤ 9 := by
  unfold digF
  split <;> omega

set_option maxHeartbeats 400000 in
theorem num2_any (s : ByteArray) (k : Nat) (i v : Int) (w : World) (hi : i = (k : Int)) (hk : k + 1 < s.size) (hs : (s.size : Int) ≤ 1048576) (HV : Hid (numF (bt s k) (bt s (k + 1)) = v)) :
    Calls Try.prog 21 #[.string s, .int .i64 i] w fun e w' => e = .returned (.int .i64 v) ∧ w' = w := by
  subst hi
  have hk1 : (k : Int) < (s.size : Int) := by omega
  have hk2 : (k : Int) + 1 < (s.size : Int) := by omega
  have hbt : ∀ i (h : i < s.size), ((s[i]'h).toNat : Int) = bt s i := fun i h => bt_get s i h
  obtain ⟨a, ha⟩ : ∃ a, digF (bt s k) = a := ⟨_, rfl⟩
  obtain ⟨b, hb⟩ : ∃ b, digF (bt s (k + 1)) = b := ⟨_, rfl⟩
  have ba := digF_bd (bt s k) (bt_bd s k).1 (bt_bd s k).2
  have bb := digF_bd (bt s (k + 1)) (bt_bd s (k + 1)).1 (bt_bd s (k + 1)).2
  rw [ha] at ba
  rw [hb] at bb
  obtain ⟨ba0, ba1⟩ := ba
  obtain ⟨bb0, bb1⟩ := bb
  have HA : Hid (digF (bt s k) = a) := ha
  have HB : Hid (digF (bt s (k + 1)) = b) := hb
  have HN : Hid (v = if a < 0 ∨ b < 0 then -1 else a * 10 + b) := by
    show _ = _
    rw [← HV.out]
    unfold numF
    rw [ha, hb]
  clear ha hb
  by_cases c1 : a < 0
  · go_enter Try.func21, Try.ntmps21
    go_wp2_with fail
    refine (digit_any (bt s k) _ (bt_bd s k).1 (bt_bd s k).2).mono ?_
    rw [HA.out]
    rintro e w1 ⟨rfl, rfl⟩
    go_wp2_with fail
    refine (digit_any (bt s (k + 1)) _ (bt_bd s (k + 1)).1 (bt_bd s (k + 1)).2).mono ?_
    rw [HB.out]
    rintro e w2 ⟨rfl, rfl⟩
    go_wp2
    go_ret
    exact ⟨by rw [HN.out, if_pos (.inl c1)]; rfl, rfl⟩
  by_cases c2 : b < 0
  · go_enter Try.func21, Try.ntmps21
    go_wp2_with fail
    refine (digit_any (bt s k) _ (bt_bd s k).1 (bt_bd s k).2).mono ?_
    rw [HA.out]
    rintro e w1 ⟨rfl, rfl⟩
    go_wp2_with fail
    refine (digit_any (bt s (k + 1)) _ (bt_bd s (k + 1)).1 (bt_bd s (k + 1)).2).mono ?_
    rw [HB.out]
    rintro e w2 ⟨rfl, rfl⟩
    go_wp2
    go_ret
    exact ⟨by rw [HN.out, if_pos (.inr c2)]; rfl, rfl⟩
  · go_enter Try.func21, Try.ntmps21
    go_wp2_with fail
    refine (digit_any (bt s k) _ (bt_bd s k).1 (bt_bd s k).2).mono ?_
    rw [HA.out]
    rintro e w1 ⟨rfl, rfl⟩
    go_wp2_with fail
    refine (digit_any (bt s (k + 1)) _ (bt_bd s (k + 1)).1 (bt_bd s (k + 1)).2).mono ?_
    rw [HB.out]
    rintro e w2 ⟨rfl, rfl⟩
    go_wp2
    go_ret
    exact ⟨by rw [HN.out, if_neg (by omega)]; rfl, rfl⟩
end Go.Proofs.Qxb6604254a
