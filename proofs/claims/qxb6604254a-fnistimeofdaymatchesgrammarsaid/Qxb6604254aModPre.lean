import Derived.Test.Qxb6604254aNum
namespace Go.Proofs.Qxb6604254a
open Go.RowKit

theorem prefix_bt (s : ByteArray) (L i : Nat) (hL : L ≤ s.size) (hi : i < L) : bt (s.extract 0 L) i = bt s i := by
  rw [extract_bt s 0 L i (by omega) hL, Nat.zero_add]

theorem fracB_congr (F : Nat) (c d : Nat → Int) (h : ∀ i, i < F → c i = d i) : fracB F c = fracB F d := by
  rw [Bool.eq_iff_iff, fracB_iff, fracB_iff]
  constructor
  · rintro (h0 | ⟨h1, h2, h3⟩)
    · exact .inl h0
    · refine .inr ⟨h1, by rw [← h 0 (by omega)]; exact h2, fun i hi h1i => by rw [← h i hi]; exact h3 i hi h1i⟩
  · rintro (h0 | ⟨h1, h2, h3⟩)
    · exact .inl h0
    · refine .inr ⟨h1, by rw [h 0 (by omega)]; exact h2, fun i hi h1i => by rw [h i hi]; exact h3 i hi h1i⟩

theorem body_prefix (s : ByteArray) (L : Nat) (hL : L ≤ s.size) : bodyB L (bt s) = bodyB L (bt (s.extract 0 L)) := by
  unfold bodyB
  by_cases h9 : 9 ≤ L
  · have e : clockB (bt s) = clockB (bt (s.extract 0 L)) := by
      unfold clockB
      rw [prefix_bt s L 0 hL (by omega), prefix_bt s L 1 hL (by omega), prefix_bt s L 2 hL (by omega), prefix_bt s L 3 hL (by omega), prefix_bt s L 4 hL (by omega), prefix_bt s L 5 hL (by omega), prefix_bt s L 6 hL (by omega), prefix_bt s L 7 hL (by omega), prefix_bt s L 8 hL (by omega)]
    rw [e, fracB_congr (L - 9) (fun i => bt s (9 + i)) (fun i => bt (s.extract 0 L) (9 + i)) (fun i hi => (prefix_bt s L (9 + i) hL (by omega)).symm)]
  · rw [decide_eq_false (p := (9 ≤ L)) h9]
    rfl

set_option maxRecDepth 100000 in
set_option maxHeartbeats 1000000 in
theorem model_empty (s : ByteArray) (w : World) (h0 : (s.size : Int) = 0) :
    Calls Try.prog 9 #[.string s] w fun e w' => e = .returned (.bool (modB s.size (bt s))) ∧ w' = w := by
  have HR : Hid (false = modB s.size (bt s)) := by
    show _ = _
    unfold modB
    rw [if_pos (by omega)]
  have hn0 : ((s.size : Int) == 0) = true := by rw [beq_iff_eq]; exact h0
  clear h0
  go_enter Try.func9, Try.ntmps9
  go_wp2
  go_ret
  exact ⟨ret_boolT HR.out, rfl⟩

set_option maxRecDepth 100000 in
set_option maxHeartbeats 1000000 in
theorem model_short (s : ByteArray) (w : World) (hs1 : (1 : Int) ≤ (s.size : Int)) (hs2 : (s.size : Int) ≤ 1048576) (hs6 : (s.size : Int) < 6) (hz0 : (bt s (s.size - 1) == 90) = false) (hz1 : (bt s (s.size - 1) == 122) = false) :
    Calls Try.prog 9 #[.string s] w fun e w' => e = .returned (.bool (modB s.size (bt s))) ∧ w' = w := by
  have HR : Hid (false = modB s.size (bt s)) := by
    show _ = _
    unfold modB
    rw [if_neg (by omega), if_neg (by simp at hz0 hz1; omega), if_neg (by omega)]
  have hbt : ∀ i (h : i < s.size), ((s[i]'h).toNat : Int) = bt s i := fun i h => bt_get s i h
  have hn0 : ((s.size : Int) == 0) = false := by rw [beq_eq_false_iff_ne]; omega
  go_enter Try.func9, Try.ntmps9
  go_wp2
  go_ret
  exact ⟨ret_boolT HR.out, rfl⟩

set_option maxRecDepth 100000 in
set_option maxHeartbeats 1000000 in
theorem model_none (s : ByteArray) (w : World) (hs1 : (1 : Int) ≤ (s.size : Int)) (hs2 : (s.size : Int) ≤ 1048576) (hs6 : (6 : Int) ≤ (s.size : Int)) (hz0 : (bt s (s.size - 1) == 90) = false) (hz1 : (bt s (s.size - 1) == 122) = false) (hg0 : (bt s (s.size - 6) == 43) = false) (hg1 : (bt s (s.size - 6) == 45) = false) :
    Calls Try.prog 9 #[.string s] w fun e w' => e = .returned (.bool (modB s.size (bt s))) ∧ w' = w := by
  have HR : Hid (false = modB s.size (bt s)) := by
    show _ = _
    unfold modB
    rw [if_neg (by omega), if_neg (by simp at hz0 hz1; omega), if_neg (by simp at hg0 hg1; omega)]
  have hbt : ∀ i (h : i < s.size), ((s[i]'h).toNat : Int) = bt s i := fun i h => bt_get s i h
  have hn0 : ((s.size : Int) == 0) = false := by rw [beq_eq_false_iff_ne]; omega
  have g6 : (s.size : Int) - 6 < (s.size : Int) := by omega
  go_enter Try.func9, Try.ntmps9
  go_wp2
  go_ret
  exact ⟨ret_boolT HR.out, rfl⟩
end Go.Proofs.Qxb6604254a
