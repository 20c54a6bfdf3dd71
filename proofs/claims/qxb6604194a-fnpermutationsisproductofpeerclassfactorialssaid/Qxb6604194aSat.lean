/-
  PLAIN ARITHMETIC for the seat b6604194a: numbers saturated at 721. No program in sight.
-/
import Derived.Test.Qxb6604194aFact
namespace Go.Proofs.Qxb6604194a

def sat (z : Nat) : Nat := if 720 < z then 721 else z

theorem sat_le (z : Nat) : sat z ≤ 721 := by unfold sat; split <;> omega
theorem sat_small (z : Nat) (h : z ≤ 720) : sat z = z := by unfold sat; rw [if_neg (by omega)]
theorem sat_big (z : Nat) (h : 720 < z) : sat z = 721 := by unfold sat; rw [if_pos h]
theorem sat_pos (z : Nat) (h : 1 ≤ z) : 1 ≤ sat z := by unfold sat; split <;> omega
theorem of_sat_small (z : Nat) (h : sat z ≤ 720) : z ≤ 720 ∧ sat z = z := by
  unfold sat at h ⊢
  by_cases hz : 720 < z
  · rw [if_pos hz] at h; omega
  · rw [if_neg hz]; omega
theorem of_sat_big (z : Nat) (h : 720 < sat z) : 720 < z := by
  by_cases hz : 720 < z
  · exact hz
  · rw [sat_small z (by omega)] at h; exact h

theorem big_left (a b : Nat) (ha : 720 < a) (hb : 1 ≤ b) : 720 < a * b := Nat.lt_of_lt_of_le ha (Nat.le_mul_of_pos_right _ hb)
theorem big_right (a b : Nat) (ha : 1 ≤ a) (hb : 720 < b) : 720 < a * b := Nat.lt_of_lt_of_le hb (Nat.le_mul_of_pos_left _ ha)

theorem sat_mul (a b : Nat) (ha : 1 ≤ a) (hb : 1 ≤ b) : sat (sat a * sat b) = sat (a * b) := by
  by_cases h1 : 720 < a
  · rw [sat_big _ (big_left a b h1 hb), sat_big a h1, sat_big _ (big_left 721 _ (by omega) (sat_pos b hb))]
  · by_cases h2 : 720 < b
    · rw [sat_big _ (big_right a b ha h2), sat_big b h2, sat_big _ (big_right _ 721 (sat_pos a ha) (by omega))]
    · rw [sat_small a (by omega), sat_small b (by omega)]

/-- One step of the factorial. -/
theorem fac_step (j : Nat) (hj : 2 ≤ j) (hf : fac (j - 1) ≤ 720) : sat (sat (fac (j - 1)) * j) = sat (fac j) := by
  rw [sat_small _ hf]
  obtain ⟨i, rfl⟩ : ∃ i, j = i + 1 := ⟨j - 1, by omega⟩
  show sat (fac i * (i + 1)) = sat ((i + 1) * fac i)
  rw [Nat.mul_comm]

theorem fac_early (j k : Nat) (h : j ≤ k) (hb : 720 < sat (fac j)) : sat (fac j) = sat (fac k) := by
  have h1 := of_sat_big _ hb
  have h2 := fac_mono h
  rw [sat_big _ h1, sat_big _ (by omega)]

theorem prodF_early (n p c : Nat) (h : c ≤ p) (hb : 720 < sat (prodF n p c)) : sat (prodF n p c) = sat (prodF n p p) := by
  have h1 := of_sat_big _ hb
  have h2 := prodF_mono n p h
  rw [sat_big _ h1, sat_big _ (by omega)]

/-- The sizes of the classes. -/
theorem sz_eq (n p c : Nat) (hp : 1 ≤ p) (hpn : p ≤ n) (hc : c < p) : sz n p c = if c < n % p then n / p + 1 else n / p := by
  unfold sz
  have hm : n % p < p := Nat.mod_lt _ (by omega)
  have hd : p * (n / p) + n % p = n := Nat.div_add_mod n p
  have hq : 1 ≤ n / p := (Nat.le_div_iff_mul_le (by omega)).2 (by omega)
  split
  · have e : n - 1 - c = (n % p - 1 - c) + p * (n / p) := by omega
    rw [e, Nat.add_mul_div_left _ _ (by omega), Nat.div_eq_of_lt (by omega)]
    omega
  · have hpq : p * (n / p) = p * (n / p - 1) + p := by
      conv => lhs; rw [show n / p = (n / p - 1) + 1 from by omega]
      rw [Nat.mul_add, Nat.mul_one]
    have e : n - 1 - c = (p + n % p - 1 - c) + p * (n / p - 1) := by omega
    rw [e, Nat.add_mul_div_left _ _ (by omega), Nat.div_eq_of_lt (by omega)]
    omega

theorem prodF_step (n p c : Nat) (F : Nat) (hF : F = fac (sz n p c)) : sat (sat (prodF n p c) * sat F) = sat (prodF n p (c + 1)) := by
  rw [sat_mul _ _ (prodF_pos _ _ _) (by rw [hF]; exact fac_pos _), hF]
  rfl

theorem ans_small (n p k : Nat) (h : PermAns n p k) (hw : sat (prodF n p p) ≤ 720) : k = sat (prodF n p p) := by
  obtain ⟨h1, h2⟩ := of_sat_small _ hw
  rcases h with ⟨h, _⟩ | ⟨_, _, h⟩
  · rw [h2, h]
  · omega

theorem ans_big (n p k : Nat) (h : PermAns n p k) (hw : 720 < sat (prodF n p p)) : 720 < k ∧ k ≤ 720 * n := by
  have h1 := of_sat_big _ hw
  rcases h with ⟨h, h2⟩ | ⟨h, h2, _⟩
  · omega
  · exact ⟨h, h2⟩

theorem ans_one (n k : Nat) (hn : 1 ≤ n) (h : PermAns n n k) : k = 1 := (permAns_one_iff hn (Nat.le_refl _) h).2 (Nat.le_refl _)
end Go.Proofs.Qxb6604194a
