/-
  PLAIN FACTS on double words for the seat b6604250a: rounding to nearest, over whole numbers. No program in sight.
-/
import Ieee.Arith
namespace Go.Proofs.Qxb6604250a
open Ieee

theorem dbinade : double.binade = 4503599627370496 := by decide
theorem dinf : double.infRung = 9218868437227405312 := by decide
theorem dsign : double.signWeight = 9223372036854775808 := by decide
theorem dleast : double.leastPlace = -1074 := by decide
theorem dfrac : double.fractionBits = 52 := rfl

/-- Nothing is dropped: the number itself. -/
theorem cut_zero (neg : Bool) (n : Nat) : Toward.even.cut neg n 0 = n := by
  unfold Toward.cut
  simp [Nat.mod_one]

/-- Something is dropped: the quotient or one more. -/
theorem cut_le (neg : Bool) (n d : Nat) : n / 2 ^ (min d (n.log2 + 2)) ≤ Toward.even.cut neg n d ∧ Toward.even.cut neg n d ≤ n / 2 ^ (min d (n.log2 + 2)) + 1 := by
  unfold Toward.cut
  simp only [Nat.shiftLeft_eq, Nat.one_mul]
  constructor
  · omega
  · have : ∀ b : Bool, b.toNat ≤ 1 := by decide
    exact Nat.add_le_add_left (this _) _

/-- What is dropped is nought: the quotient. -/
theorem cut_exact (neg : Bool) (m k : Nat) (hm : m ≠ 0) : Toward.even.cut neg (m * 2 ^ k) k = m := by
  have hk : k ≤ (m * 2 ^ k).log2 := by
    refine (Nat.le_log2 (Nat.mul_ne_zero hm (Nat.ne_of_gt (Nat.two_pow_pos _)))).2 ?_
    exact Nat.le_mul_of_pos_left _ (Nat.pos_of_ne_zero hm)
  unfold Toward.cut
  have e : min k ((m * 2 ^ k).log2 + 2) = k := by omega
  have hp : 0 < 2 ^ k := Nat.two_pow_pos _
  simp only [Nat.shiftLeft_eq, Nat.one_mul, e, Nat.mul_div_cancel _ hp, Nat.mul_mod_left, Nat.mul_zero]
  have h1 : ¬ 2 ^ k < 0 := by omega
  simp [h1]

/-- 'nearest' at a number that is not nought, written out. -/
theorem near_def (neg : Bool) (mag : Nat) (place : Int) (h : mag ≠ 0) :
    double.nearest neg mag place = double.word neg (min (((max (place + mag.log2 - 52) (-1074)) + 1074).toNat * 4503599627370496 + Toward.even.cut neg (mag <<< (place - max (place + mag.log2 - 52) (-1074)).toNat) (max (place + mag.log2 - 52) (-1074) - place).toNat) 9218868437227405312) := by
  unfold Format.nearest
  rw [if_neg h]
  simp only [dbinade, dinf, dleast, dfrac]
  rw [show ∀ x : Int, x - -1074 = x + 1074 from fun x => by omega]
  rfl

theorem log2_lt' {n k : Nat} (h : n ≠ 0) : n.log2 < k ↔ n < 2 ^ k := Nat.log2_lt h
theorem pow_log2_le {n : Nat} (h : n ≠ 0) : 2 ^ n.log2 ≤ n := Nat.log2_self_le h
theorem lt_pow_log2 (n : Nat) : n < 2 ^ (n.log2 + 1) := Nat.lt_log2_self

/-- The binade of the result, from above. -/
theorem near_hi (neg : Bool) (mag : Nat) (place : Int) (h : mag ≠ 0) : ∃ r, double.nearest neg mag place = double.word neg (min r 9218868437227405312) ∧
    ((-1022 ≤ place + mag.log2 → (place + mag.log2 + 1023).toNat * 4503599627370496 ≤ r ∧ r ≤ (place + mag.log2 + 1024).toNat * 4503599627370496) ∧ (place + mag.log2 < -1022 → r ≤ 4503599627370496) ∧
      (place + mag.log2 < -1022 → -1074 ≤ place → r = mag * 2 ^ (place + 1074).toNat)) := by
  refine ⟨_, near_def neg mag place h, fun he => ?_, fun he => ?_, fun he hp => ?_⟩
  · have e1 : max (place + (mag.log2 : Int) - 52) (-1074) = place + mag.log2 - 52 := by omega
    rw [e1]
    have hk : 4503599627370496 ≤ Toward.even.cut neg (mag <<< (place - (place + mag.log2 - 52)).toNat) (place + mag.log2 - 52 - place).toNat ∧ Toward.even.cut neg (mag <<< (place - (place + mag.log2 - 52)).toNat) (place + mag.log2 - 52 - place).toNat ≤ 9007199254740992 := by
      have h0 := pow_log2_le h
      have h52 : (2 : Nat) ^ 52 = 4503599627370496 := by decide
      by_cases hl : mag.log2 ≤ 52
      · have e2 : (place + (mag.log2 : Int) - 52 - place).toNat = 0 := by omega
        have e3 : (place - (place + (mag.log2 : Int) - 52)).toNat = 52 - mag.log2 := by omega
        rw [e2, e3, cut_zero, Nat.shiftLeft_eq]
        have h1 := lt_pow_log2 mag
        have h2 : mag * 2 ^ (52 - mag.log2) < 2 ^ (mag.log2 + 1) * 2 ^ (52 - mag.log2) := Nat.mul_lt_mul_of_pos_right h1 (Nat.two_pow_pos _)
        rw [← Nat.pow_add, show mag.log2 + 1 + (52 - mag.log2) = 53 from by omega] at h2
        have h3 : 2 ^ mag.log2 * 2 ^ (52 - mag.log2) ≤ mag * 2 ^ (52 - mag.log2) := Nat.mul_le_mul_right _ h0
        rw [← Nat.pow_add, show mag.log2 + (52 - mag.log2) = 52 from by omega] at h3
        have : (2 : Nat) ^ 53 = 9007199254740992 := by decide
        omega
      · have e2 : (place + (mag.log2 : Int) - 52 - place).toNat = mag.log2 - 52 := by omega
        have e3 : (place - (place + (mag.log2 : Int) - 52)).toNat = 0 := by omega
        rw [e2, e3, Nat.shiftLeft_zero]
        have h1 := cut_le neg mag (mag.log2 - 52)
        rw [show min (mag.log2 - 52) (mag.log2 + 2) = mag.log2 - 52 from by omega] at h1
        have h2 := lt_pow_log2 mag
        rw [show mag.log2 = 52 + (mag.log2 - 52) from by omega, Nat.pow_add] at h0
        have h4 : 2 ^ 52 ≤ mag / 2 ^ (mag.log2 - 52) := by
          refine (Nat.le_div_iff_mul_le (Nat.two_pow_pos _)).2 ?_
          exact h0
        rw [show mag.log2 + 1 = 53 + (mag.log2 - 52) from by omega, Nat.pow_add] at h2
        have h3 : mag / 2 ^ (mag.log2 - 52) < 2 ^ 53 := (Nat.div_lt_iff_lt_mul (Nat.two_pow_pos _)).2 h2
        have : (2 : Nat) ^ 53 = 9007199254740992 := by decide
        omega
    omega
  · have e1 : max (place + (mag.log2 : Int) - 52) (-1074) = -1074 := by omega
    rw [e1]
    have e4 : ((-1074 : Int) + 1074).toNat = 0 := rfl
    rw [e4]
    have h2 := lt_pow_log2 mag
    have h52 : (2 : Nat) ^ 52 = 4503599627370496 := by decide
    by_cases hp : -1074 ≤ place
    · have e2 : (-1074 - place).toNat = 0 := by omega
      rw [e2, cut_zero, Nat.shiftLeft_eq]
      have h3 : mag * 2 ^ (place - -1074).toNat < 2 ^ (mag.log2 + 1) * 2 ^ (place - -1074).toNat := Nat.mul_lt_mul_of_pos_right h2 (Nat.two_pow_pos _)
      rw [← Nat.pow_add] at h3
      have h4 : 2 ^ (mag.log2 + 1 + (place - -1074).toNat) ≤ 2 ^ 52 := Nat.pow_le_pow_right (by omega) (by omega)
      omega
    · have e3 : (place - -1074).toNat = 0 := by omega
      rw [e3, Nat.shiftLeft_zero]
      have h1 := (cut_le neg mag (-1074 - place).toNat).2
      have h3 : mag / 2 ^ (min (-1074 - place).toNat (mag.log2 + 2)) < 2 ^ 52 := by
        refine (Nat.div_lt_iff_lt_mul (Nat.two_pow_pos _)).2 ?_
        rw [← Nat.pow_add]
        exact Nat.lt_of_lt_of_le h2 (Nat.pow_le_pow_right (by omega) (by omega))
      omega
  · have e1 : max (place + (mag.log2 : Int) - 52) (-1074) = -1074 := by omega
    rw [e1]
    have e4 : ((-1074 : Int) + 1074).toNat = 0 := rfl
    have e2 : (-1074 - place).toNat = 0 := by omega
    rw [e4, e2, cut_zero, Nat.shiftLeft_eq, show place - -1074 = place + 1074 from by omega]
    omega

/-- A number that is not great is written as a finite word. -/
theorem near_fin (neg : Bool) (mag : Nat) (place : Int) (h : mag ≠ 0) (he : place + mag.log2 ≤ 1020) : ∃ r, double.nearest neg mag place = double.word neg r ∧ r < 9218868437227405312 := by
  obtain ⟨r, h1, h2, h3, _⟩ := near_hi neg mag place h
  have hr : r < 9218868437227405312 := by
    by_cases hc : -1022 ≤ place + mag.log2
    · have := h2 hc; omega
    · have := h3 (by omega); omega
  exact ⟨r, by rw [h1, Nat.min_eq_left (by omega)], hr⟩

/-- What a finite word reads as. -/
theorem read_word (neg : Bool) (r : Nat) (h : r < 9218868437227405312) : double.read (double.word neg r) = if r < 4503599627370496 then .number neg r (-1074) else .number neg (4503599627370496 + r % 4503599627370496) (-1074 + ((r / 4503599627370496 - 1 : Nat) : Int)) := by
  have e1 : double.word neg r % 9223372036854775808 = r := by
    unfold Format.word
    rw [dsign]
    cases neg <;> simp <;> omega
  have e2 : (double.word neg r / 9223372036854775808 % 2 == 1) = neg := by
    unfold Format.word
    rw [dsign]
    cases neg
    · simp; omega
    · simp; omega
  unfold Format.read
  simp only [dbinade, dinf, dleast, dsign, e1, e2]
  by_cases hs : r < 4503599627370496
  · rw [if_pos hs, if_pos hs]
  · rw [if_neg hs, if_neg hs, if_pos h]


theorem log2_eq (n k : Nat) (h1 : 2 ^ k ≤ n) (h2 : n < 2 ^ (k + 1)) : n.log2 = k := by
  have h0 : n ≠ 0 := by have := Nat.two_pow_pos k; omega
  have a := (Nat.le_log2 h0).2 h1
  have b := (Nat.log2_lt h0).2 h2
  omega

theorem log2_mul_pow (n k : Nat) (h : n ≠ 0) : (n * 2 ^ k).log2 = n.log2 + k := by
  refine log2_eq _ _ ?_ ?_
  · rw [Nat.pow_add]; exact Nat.mul_le_mul_right _ (pow_log2_le h)
  · rw [show n.log2 + k + 1 = n.log2 + 1 + k from by omega, Nat.pow_add]
    exact Nat.mul_lt_mul_of_pos_right (lt_pow_log2 n) (Nat.two_pow_pos _)

/-- A number at or above the least place, rounded: the result is finite, not nought, and its binade is the number's or the next. -/
theorem near_binade (neg : Bool) (mag : Nat) (place : Int) (h : mag ≠ 0) (hp : -1074 ≤ place) (he : place + mag.log2 ≤ 1020) :
    ∃ m i, double.read (double.nearest neg mag place) = .number neg m i ∧ m ≠ 0 ∧ place + mag.log2 ≤ i + m.log2 ∧ i + m.log2 ≤ place + mag.log2 + 1 := by
  obtain ⟨r, h1, h2, h3, h4⟩ := near_hi neg mag place h
  by_cases hc : -1022 ≤ place + mag.log2
  · obtain ⟨h5, h6⟩ := h2 hc
    have hr : r < 9218868437227405312 := by omega
    rw [h1, Nat.min_eq_left (by omega), read_word neg r hr, if_neg (by omega)]
    have hl : (4503599627370496 + r % 4503599627370496).log2 = 52 := by
      have e1 : (2 : Nat) ^ 52 = 4503599627370496 := by decide
      have e2 : (2 : Nat) ^ (52 + 1) = 9007199254740992 := by decide
      exact log2_eq _ _ (by omega) (by omega)
    exact ⟨_, _, rfl, by omega, by rw [hl]; omega, by rw [hl]; omega⟩
  · have h5 := h3 (by omega)
    have h6 := h4 (by omega) hp
    have hA : mag * 2 ^ (place + 1074).toNat ≠ 0 := Nat.mul_ne_zero h (Nat.ne_of_gt (Nat.two_pow_pos _))
    have hl := log2_mul_pow mag (place + 1074).toNat h
    have hr : r < 4503599627370496 := by
      have e1 : (2 : Nat) ^ 52 = 4503599627370496 := by decide
      have := (Nat.log2_lt hA (k := 52)).1 (by omega)
      omega
    rw [h1, Nat.min_eq_left (by omega), read_word neg r (by omega), if_pos hr]
    refine ⟨_, _, rfl, by omega, ?_, ?_⟩ <;> rw [h6, hl] <;> omega

/-- The exact numbers of the format come back. -/
theorem near_exact (neg : Bool) (r : Nat) (h : r < 9218868437227405312) (h0 : r ≠ 0) :
    double.nearest neg (if r < 4503599627370496 then r else (4503599627370496 + r % 4503599627370496) * 2 ^ (r / 4503599627370496 - 1)) (-1074) = double.word neg r := by
  by_cases hs : r < 4503599627370496
  · rw [if_pos hs]
    have hl : r.log2 < 52 := (Nat.log2_lt h0).2 (by have e1 : (2 : Nat) ^ 52 = 4503599627370496 := by decide
                                                    omega)
    obtain ⟨r', h1, _, _, h4⟩ := near_hi neg r (-1074) h0
    have := h4 (by omega) (by omega)
    simp at this
    rw [h1, this, Nat.min_eq_left (by omega)]
  · rw [if_neg hs]
    have hm : 4503599627370496 + r % 4503599627370496 ≠ 0 := by omega
    have hl : (4503599627370496 + r % 4503599627370496).log2 = 52 := by
      have e1 : (2 : Nat) ^ 52 = 4503599627370496 := by decide
      have e2 : (2 : Nat) ^ (52 + 1) = 9007199254740992 := by decide
      exact log2_eq _ _ (by omega) (by omega)
    have hll := log2_mul_pow _ (r / 4503599627370496 - 1) hm
    rw [hl] at hll
    rw [near_def _ _ _ (Nat.mul_ne_zero hm (Nat.ne_of_gt (Nat.two_pow_pos _))), hll]
    have e1 : max ((-1074 : Int) + ((52 + (r / 4503599627370496 - 1) : Nat) : Int) - 52) (-1074) = -1074 + ((r / 4503599627370496 - 1 : Nat) : Int) := by omega
    rw [e1]
    have e2 : ((-1074 : Int) - (-1074 + ((r / 4503599627370496 - 1 : Nat) : Int))).toNat = 0 := by omega
    have e3 : ((-1074 : Int) + ((r / 4503599627370496 - 1 : Nat) : Int) - -1074).toNat = r / 4503599627370496 - 1 := by omega
    have e4 : ((-1074 : Int) + ((r / 4503599627370496 - 1 : Nat) : Int) + 1074).toNat = r / 4503599627370496 - 1 := by omega
    rw [e2, e3, e4, Nat.shiftLeft_zero, cut_exact _ _ _ hm]
    congr 1
    omega
end Go.Proofs.Qxb6604250a
