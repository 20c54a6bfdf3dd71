/-
  PLAIN ARITHMETIC for the seat b6604194a: the steps of the binary greatest common divisor. No program in sight.
-/
namespace Go.Proofs.Qxb6604194a

theorem cop_two (a : Nat) (h : a % 2 = 1) : Nat.Coprime 2 a := by
  show Nat.gcd 2 a = 1
  rw [Nat.gcd_rec, h]
  simp

theorem gcd_half_right (a b : Nat) (ha : a % 2 = 1) (hb : b % 2 = 0) : Nat.gcd a (b / 2) = Nat.gcd a b := by
  have e : b = 2 * (b / 2) := by omega
  conv => rhs; rw [e]
  exact ((cop_two a ha).gcd_mul_left_cancel_right (b / 2)).symm

theorem gcd_half_left (a b : Nat) (hb : b % 2 = 1) (ha : a % 2 = 0) : Nat.gcd (a / 2) b = Nat.gcd a b := by
  rw [Nat.gcd_comm (a / 2) b, Nat.gcd_comm a b]
  exact gcd_half_right b a hb ha

theorem half_pow (a sh A : Nat) (ha : a % 2 = 0) (h : a * 2 ^ sh = A) : a / 2 * 2 ^ (sh + 1) = A := by
  have e : a = 2 * (a / 2) := by omega
  rw [Nat.pow_succ, ← h]
  conv => rhs; rw [e]
  rw [Nat.mul_comm (2 ^ sh) 2, ← Nat.mul_assoc, Nat.mul_comm (a / 2) 2]

theorem sh_le (a sh A : Nat) (ha : 1 ≤ a) (h : a * 2 ^ sh = A) (hA : (A : Int) ≤ 9223372036854775807) : sh ≤ 62 := by
  by_cases hs : sh ≤ 62
  · exact hs
  · exfalso
    have h1 : 2 ^ 63 ≤ 2 ^ sh := Nat.pow_le_pow_right (by omega) (by omega)
    have h2 : 1 * 2 ^ sh ≤ a * 2 ^ sh := Nat.mul_le_mul_right _ ha
    have h3 : (2 : Nat) ^ 63 = 9223372036854775808 := by decide
    omega

theorem gcd_scaled (a b sh A B : Nat) (h1 : a * 2 ^ sh = A) (h2 : b * 2 ^ sh = B) : Nat.gcd a b * 2 ^ sh = Nat.gcd A B := by
  rw [← h1, ← h2, Nat.gcd_mul_right]

theorem gcd_le_left (A B : Nat) (hA : 1 ≤ A) : Nat.gcd A B ≤ A := Nat.le_of_dvd (by omega) (Nat.gcd_dvd_left _ _)

theorem or_odd (a b : Nat) : (a ||| b) % 2 = if a % 2 = 0 ∧ b % 2 = 0 then 0 else 1 := by
  have h := Nat.or_mod_two_pow (a := a) (b := b) (n := 1)
  simp only [Nat.pow_one] at h
  rw [h]
  have ha : a % 2 = 0 ∨ a % 2 = 1 := by omega
  have hb : b % 2 = 0 ∨ b % 2 = 1 := by omega
  rcases ha with ha | ha <;> rcases hb with hb | hb <;> rw [ha, hb] <;> simp
end Go.Proofs.Qxb6604194a
