import Derived.Test.Qxb6604194aPerms
import Derived.Test.Qxb6604194aSat
namespace Go.Proofs.Qxb6604194a
open Go.RowKit

set_option maxHeartbeats 400000 in
theorem satmul (x y Z : Nat) (hx : 1 ≤ x) (hy : 1 ≤ y) (hx2 : x ≤ 1000000) (hy2 : y ≤ 1000000) (HZ : Hid (sat (x * y) = Z)) (w : World) :
    Calls Try.prog 11 #[.int .i64 (x : Int), .int .i64 (y : Int)] w fun e w' => e = .returned (.int .i64 (Z : Int)) ∧ w' = w := by
  by_cases h1 : 720 < x
  · have e := HZ.out
    rw [sat_big _ (big_left x y h1 hy)] at e
    subst e
    have h1' : (720 : Int) < (x : Int) := by omega
    go_enter Try.func11, Try.ntmps11
    go_wp2
    go_ret
    exact ⟨rfl, rfl⟩
  · by_cases h2 : 720 < y
    · have e := HZ.out
      rw [sat_big _ (big_right x y hx h2)] at e
      subst e
      have h1' : ¬ (720 : Int) < (x : Int) := by omega
      have h2' : (720 : Int) < (y : Int) := by omega
      go_enter Try.func11, Try.ntmps11
      go_wp2
      go_ret
      exact ⟨rfl, rfl⟩
    · have h1' : ¬ (720 : Int) < (x : Int) := by omega
      have h2' : ¬ (720 : Int) < (y : Int) := by omega
      have hp0 : (0 : Int) ≤ (x : Int) * (y : Int) := Int.mul_nonneg (by omega) (by omega)
      have hp1 : (x : Int) * (y : Int) ≤ 518400 := by
        have : (x : Int) * (y : Int) ≤ 720 * 720 := Int.mul_le_mul (by omega) (by omega) (by omega) (by omega)
        omega
      have hcast : ((x * y : Nat) : Int) = (x : Int) * (y : Int) := by simp
      have HC : Hid (((x * y : Nat) : Int) = (x : Int) * (y : Int)) := hcast
      by_cases h3 : (720 : Int) < (x : Int) * (y : Int)
      · have e := HZ.out
        rw [sat_big _ (by omega)] at e
        subst e
        clear hcast
        go_enter Try.func11, Try.ntmps11
        go_wp2
        go_ret
        exact ⟨rfl, rfl⟩
      · have e := HZ.out
        rw [sat_small _ (by omega)] at e
        subst e
        clear hcast
        go_enter Try.func11, Try.ntmps11
        go_wp2
        go_ret
        exact ⟨ret_int HC.out.symm, rfl⟩

set_option maxHeartbeats 400000 in
theorem satfact (k Z : Nat) (hk : k ≤ 65537) (HZ : Hid (sat (fac k) = Z)) (w : World) :
    Calls Try.prog 10 #[.int .i64 (k : Int)] w fun e w' => e = .returned (.int .i64 (Z : Int)) ∧ w' = w := by
  go_enter Try.func10, Try.ntmps10
  go_wp2
  go_loop [3, 4] (fun vf vj => ∃ j f : Nat, vj = .int .i64 (j : Int) ∧ vf = .int .i64 (f : Int) ∧ 2 ≤ j ∧ j ≤ 65538 ∧ 1 ≤ f ∧ f ≤ 720 ∧ Hid (f = fac (j - 1) ∧ (j ≤ k + 1 ∨ j = 2))) (fun _ vj => k + 1 - (intOf vj).toNat)
  case atStart => exact ⟨2, 1, rfl, rfl, by omega, by omega, by omega, by omega, rfl, .inr rfl⟩
  case round =>
    obtain ⟨j, f, rfl, rfl, hj1, hj2, hf1, hf2, HF⟩ := hrel
    by_cases hle : (j : Int) ≤ (k : Int)
    · obtain ⟨Y, hY⟩ : ∃ Y, sat (f * j) = Y := ⟨_, rfl⟩
      have hY1 : Y ≤ 721 := by rw [← hY]; exact sat_le _
      have hY2 : 1 ≤ Y := by rw [← hY]; exact sat_pos _ (Nat.mul_pos (by omega) (by omega))
      have HY : Hid (Y = sat (fac j)) := by
        obtain ⟨e, _⟩ := HF.out
        have := fac_step j hj1 (by rw [← e]; exact hf2)
        rw [← e, sat_small f hf2, hY] at this
        exact this
      have HY0 : Hid (sat (f * j) = Y) := hY
      clear hY
      go_wp2_with fail
      refine (satmul f j Y (by omega) (by omega) (by omega) (by omega) HY0 _).mono ?_
      rintro e w' ⟨rfl, rfl⟩
      by_cases hbig : (720 : Int) < (Y : Int)
      · go_wp2
        go_ret
        have e1 := HY.out
        have e2 := fac_early j k (by omega) (by rw [← e1]; omega)
        exact ⟨ret_int (by rw [e1, e2, HZ.out]), rfl⟩
      · go_wp2
        go_round
        case rel =>
          have e1 := HY.out
          have e2 := of_sat_small (fac j) (by rw [← e1]; omega)
          exact ⟨j + 1, Y, by go_num, rfl, by omega, by omega, hY2, by omega, by rw [e1, e2.2]; rfl, .inl (by omega)⟩
        case measure =>
          simp [intOf]
          omega
    · go_wp2
      go_ret
      obtain ⟨e, hor⟩ := HF.out
      have : fac (j - 1) = fac k := by
        by_cases hk1 : k ≤ 1
        · have hj : j = 2 := by omega
          subst hj
          have : k = 0 ∨ k = 1 := by omega
          rcases this with rfl | rfl <;> rfl
        · have : j - 1 = k := by omega
          rw [this]
      have e2 := HZ.out
      rw [sat_small _ (by omega)] at e2
      exact ⟨ret_int (by omega), rfl⟩
end Go.Proofs.Qxb6604194a
