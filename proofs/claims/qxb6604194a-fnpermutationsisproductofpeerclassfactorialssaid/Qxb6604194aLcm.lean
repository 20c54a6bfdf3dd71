import Derived.Test.Qxb6604194aGcd
import Derived.Test.Qxb6604194aMul
namespace Go.Proofs.Qxb6604194a
open Go.RowKit

theorem bingcd' (A B G : Nat) (HG : Hid (G = Nat.gcd A B)) (hA : 1 ≤ A) (hB : 1 ≤ B) (hA2 : (A : Int) ≤ 9223372036854775807) (hB2 : (B : Int) ≤ 9223372036854775807) (w : World) :
    Calls Try.prog 14 #[.int .u64 (A : Int), .int .u64 (B : Int)] w fun e w' => e = .returned (.int .u64 (G : Int)) ∧ w' = w := by
  have := HG.out
  rw [this]
  exact bingcd A B hA hB hA2 hB2 w

set_option maxHeartbeats 400000 in
theorem lcm_neg (x y n : Int) (hn : n < 0) (w : World) :
    Calls Try.prog 8 #[.int .u64 x, .int .u64 y, .int .i64 n] w fun e w' => e = .returned (.tuple #[.int .u64 0, .bool false]) ∧ w' = w := by
  go_enter Try.func8, Try.ntmps8
  go_wp2
  go_ret2
  exact ⟨rfl, rfl⟩

theorem ret_fit {a b : Int} (h : a = b) : Ending.returned (.tuple #[.int .u64 a, .bool true]) = .returned (.tuple #[.int .u64 b, .bool true]) := by rw [h]

set_option maxHeartbeats 400000 in
theorem lcm_fit (A B G : Nat) (HG : Hid (G = Nat.gcd A B)) (hA : 1 ≤ A) (hB : 1 ≤ B) (hG : 1 ≤ G) (hA2 : (A : Int) ≤ 9223372036854775807) (hB2 : (B : Int) ≤ 9223372036854775807) (n : Int) (hn : 0 ≤ n) (hn2 : n ≤ 9223372036854775807)
    (hq0 : 0 ≤ (A : Int) / (G : Int)) (hq1 : (A : Int) / (G : Int) ≤ 9223372036854775807)
    (hp0 : 0 ≤ (A : Int) / (G : Int) * (B : Int)) (hp : (A : Int) / (G : Int) * (B : Int) ≤ n) (w : World) :
    Calls Try.prog 8 #[.int .u64 (A : Int), .int .u64 (B : Int), .int .i64 n] w fun e w' => e = .returned (.tuple #[.int .u64 ((A : Int) / (G : Int) * (B : Int)), .bool true]) ∧ w' = w := by
  have h1 : ((A : Int) / (G : Int) * (B : Int) / 18446744073709551616 != 0) = false := by rw [bne_eq_false_iff_eq]; omega
  have h2 : ¬ n < (A : Int) / (G : Int) * (B : Int) % 18446744073709551616 := by omega
  go_enter Try.func8, Try.ntmps8
  go_wp2_with fail
  refine (bingcd' A B G HG hA hB hA2 hB2 _).mono ?_
  rintro e w' ⟨rfl, rfl⟩
  go_wp2_with fail
  refine (mulfull _ _ hq0 (by omega) hq1 hB2 _).mono ?_
  rintro e w' ⟨rfl, rfl⟩
  go_wp2
  go_ret2
  exact ⟨ret_fit (by omega), rfl⟩

set_option maxHeartbeats 400000 in
theorem lcm_not (A B G : Nat) (HG : Hid (G = Nat.gcd A B)) (hA : 1 ≤ A) (hB : 1 ≤ B) (hG : 1 ≤ G) (hA2 : (A : Int) ≤ 9223372036854775807) (hB2 : (B : Int) ≤ 9223372036854775807) (n : Int) (hn : 0 ≤ n) (hn2 : n ≤ 9223372036854775807)
    (hq0 : 0 ≤ (A : Int) / (G : Int)) (hq1 : (A : Int) / (G : Int) ≤ 9223372036854775807)
    (hp : n < (A : Int) / (G : Int) * (B : Int)) (w : World) :
    Calls Try.prog 8 #[.int .u64 (A : Int), .int .u64 (B : Int), .int .i64 n] w fun e w' => e = .returned (.tuple #[.int .u64 0, .bool false]) ∧ w' = w := by
  by_cases hc : (A : Int) / (G : Int) * (B : Int) / 18446744073709551616 = 0
  · have h1 : ((A : Int) / (G : Int) * (B : Int) / 18446744073709551616 != 0) = false := by rw [bne_eq_false_iff_eq]; exact hc
    have h2 : n < (A : Int) / (G : Int) * (B : Int) % 18446744073709551616 := by omega
    clear hc
    go_enter Try.func8, Try.ntmps8
    go_wp2_with fail
    refine (bingcd' A B G HG hA hB hA2 hB2 _).mono ?_
    rintro e w' ⟨rfl, rfl⟩
    go_wp2_with fail
    refine (mulfull _ _ hq0 (by omega) hq1 hB2 _).mono ?_
    rintro e w' ⟨rfl, rfl⟩
    go_wp2
    go_ret2
    exact ⟨rfl, rfl⟩
  · have h1 : ((A : Int) / (G : Int) * (B : Int) / 18446744073709551616 != 0) = true := by rw [bne_iff_ne]; exact hc
    clear hc
    go_enter Try.func8, Try.ntmps8
    go_wp2_with fail
    refine (bingcd' A B G HG hA hB hA2 hB2 _).mono ?_
    rintro e w' ⟨rfl, rfl⟩
    go_wp2_with fail
    refine (mulfull _ _ hq0 (by omega) hq1 hB2 _).mono ?_
    rintro e w' ⟨rfl, rfl⟩
    go_wp2
    go_ret2
    exact ⟨rfl, rfl⟩
end Go.Proofs.Qxb6604194a
