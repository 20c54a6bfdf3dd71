/-
  PLAIN ARITHMETIC for the seat b6604194a: no Go in sight.
-/
namespace Go.Proofs.Qxb6604194a

/-- The greatest common divisor of two numbers that are at least 1, as an Int. -/
def gcdI (h s : Int) : Int := ((Nat.gcd h.toNat s.toNat : Nat) : Int)

/-- What 'period' gives under subscriber symmetry. -/
def perF (n h s : Int) : Int := if n.tdiv s < h / gcdI h s then n else h / gcdI h s * s

theorem gcdI_pos (h s : Int) (hh : 1 ≤ h) : 1 ≤ gcdI h s := by
  unfold gcdI
  have : 0 < Nat.gcd h.toNat s.toNat := Nat.gcd_pos_of_pos_left _ (by omega)
  omega

theorem gcdI_dvd_left (h s : Int) (hh : 1 ≤ h) : gcdI h s ∣ h := by
  unfold gcdI
  have : Nat.gcd h.toNat s.toNat ∣ h.toNat := Nat.gcd_dvd_left _ _
  have e : ((h.toNat : Nat) : Int) = h := by omega
  have h2 := Int.ofNat_dvd.2 this
  rw [e] at h2
  exact h2

theorem quot_pos (h s : Int) (hh : 1 ≤ h) : 1 ≤ h / gcdI h s := by
  obtain ⟨k, hk⟩ := gcdI_dvd_left h s hh
  have hp := gcdI_pos h s hh
  have e : h / gcdI h s = k := by
    conv => lhs; lhs; rw [hk]
    exact Int.mul_ediv_cancel_left _ (by omega)
  rw [e]
  by_cases hk0 : 1 ≤ k
  · exact hk0
  · exfalso
    have : gcdI h s * k ≤ 0 := Int.mul_nonpos_of_nonneg_of_nonpos (by omega) (by omega)
    omega

theorem quot_le (h s : Int) (hh : 1 ≤ h) : h / gcdI h s ≤ h := by
  have hp := gcdI_pos h s hh
  exact Int.ediv_le_self _ (by omega)

/-- The test of 'period' says no: the product stays within n. -/
theorem prod_le (n s l : Int) (hs : 1 ≤ s) (hl : 1 ≤ l) (hc : ¬ n.tdiv s < l) : 0 ≤ n ∧ l * s ≤ n ∧ 1 ≤ l * s := by
  have hn : 0 ≤ n := by
    by_cases h : 0 ≤ n
    · exact h
    · exfalso
      have : n.tdiv s ≤ 0 := by
        have := Int.neg_tdiv (-n) s
        rw [Int.neg_neg] at this
        rw [this]
        have := Int.tdiv_nonneg (a := -n) (b := s) (by omega) (by omega)
        omega
      omega
  rw [Int.tdiv_eq_ediv_of_nonneg hn] at hc
  refine ⟨hn, ?_, ?_⟩
  · have h1 : n / s * s ≤ n := Int.ediv_mul_le n (by omega)
    have h2 : l * s ≤ n / s * s := Int.mul_le_mul_of_nonneg_right (by omega) (by omega)
    omega
  · have : 1 * 1 ≤ l * s := Int.mul_le_mul hl hs (by omega) (by omega)
    omega

end Go.Proofs.Qxb6604194a
