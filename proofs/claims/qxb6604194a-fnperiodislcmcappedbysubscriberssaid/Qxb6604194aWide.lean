/-
  PLAIN ARITHMETIC for the seat b6604194a: the 128-bit product in two words. No program in sight.
-/
namespace Go.Proofs.Qxb6604194a

theorem expand (b x1 x0 y1 y0 : Int) : (x1 * b + x0) * (y1 * b + y0) = x1 * y1 * (b * b) + (x1 * y0 + x0 * y1) * b + x0 * y0 := by
  simp only [Int.add_mul, Int.mul_add]
  have e1 : x1 * b * (y1 * b) = x1 * y1 * (b * b) := by
    rw [Int.mul_assoc, Int.mul_left_comm b y1 b, ← Int.mul_assoc]
  have e2 : x1 * b * y0 = x1 * y0 * b := by
    rw [Int.mul_assoc, Int.mul_comm b y0, ← Int.mul_assoc]
  have e3 : x0 * (y1 * b) = x0 * y1 * b := by rw [Int.mul_assoc]
  rw [e1, e2, e3]
  omega

theorem mul_bounds (a b : Int) (ha : 0 ≤ a) (ha2 : a ≤ 4294967295) (hb : 0 ≤ b) (hb2 : b ≤ 4294967295) : 0 ≤ a * b ∧ a * b ≤ 18446744065119617025 := by
  refine ⟨Int.mul_nonneg ha hb, ?_⟩
  have : a * b ≤ 4294967295 * 4294967295 := Int.mul_le_mul ha2 hb2 hb (by omega)
  omega

/-- The high word, as the program reckons it: of the four products of halves. -/
def hiOf (p q r s : Int) : Int :=
  ((p % 18446744073709551616 + (q % 18446744073709551616 + s % 18446744073709551616 / 4294967296) % 18446744073709551616 / 4294967296) % 18446744073709551616
    + ((q % 18446744073709551616 + s % 18446744073709551616 / 4294967296) % 18446744073709551616 % 4294967296 + r % 18446744073709551616) % 18446744073709551616 / 4294967296) % 18446744073709551616

theorem hi_eq (p q r s : Int) (hp : 0 ≤ p ∧ p ≤ 18446744065119617025) (hq : 0 ≤ q ∧ q ≤ 18446744065119617025) (hr : 0 ≤ r ∧ r ≤ 18446744065119617025) (hs : 0 ≤ s ∧ s ≤ 18446744065119617025)
    (ht : p * 18446744073709551616 + (q + r) * 4294967296 + s ≤ 85070591730234615847396907784232501249) :
    hiOf p q r s = (p * 18446744073709551616 + (q + r) * 4294967296 + s) / 18446744073709551616 := by
  have e1 : p % 18446744073709551616 = p := by omega
  have e2 : q % 18446744073709551616 = q := by omega
  have e3 : r % 18446744073709551616 = r := by omega
  have e4 : s % 18446744073709551616 = s := by omega
  unfold hiOf
  rw [e1, e2, e3, e4]
  omega

/-- The exact product, split. -/
theorem wide (x y : Int) (hx0 : 0 ≤ x) (hy0 : 0 ≤ y) (hx : x ≤ 9223372036854775807) (hy : y ≤ 9223372036854775807) :
    hiOf (x / 4294967296 * (y / 4294967296)) (x / 4294967296 * (y % 4294967296)) (x % 4294967296 * (y / 4294967296)) (x % 4294967296 * (y % 4294967296)) = x * y / 18446744073709551616 := by
  have ex : x = x / 4294967296 * 4294967296 + x % 4294967296 := by omega
  have ey : y = y / 4294967296 * 4294967296 + y % 4294967296 := by omega
  have hxy : x * y = x / 4294967296 * (y / 4294967296) * 18446744073709551616 + (x / 4294967296 * (y % 4294967296) + x % 4294967296 * (y / 4294967296)) * 4294967296 + x % 4294967296 * (y % 4294967296) := by
    have := expand 4294967296 (x / 4294967296) (x % 4294967296) (y / 4294967296) (y % 4294967296)
    rw [← ex, ← ey] at this
    exact this
  have hle : x * y ≤ 9223372036854775807 * 9223372036854775807 := Int.mul_le_mul hx hy hy0 (by omega)
  rw [hxy] at hle ⊢
  exact hi_eq _ _ _ _ (mul_bounds _ _ (by omega) (by omega) (by omega) (by omega)) (mul_bounds _ _ (by omega) (by omega) (by omega) (by omega)) (mul_bounds _ _ (by omega) (by omega) (by omega) (by omega)) (mul_bounds _ _ (by omega) (by omega) (by omega) (by omega)) hle
end Go.Proofs.Qxb6604194a
