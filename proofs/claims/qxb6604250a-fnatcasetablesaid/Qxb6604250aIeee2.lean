/-
  PLAIN FACTS on double words for the seat b6604250a: values, order, sums, quotients, and what interpolation between equal ends gives. No program in sight.
-/
import Derived.Test.Qxb6604250aIeee
namespace Go.Proofs.Qxb6604250a
open Ieee

/-- A finite word's value, in units of the least place. -/
def val (s : Bool) (m : Nat) (i : Int) : Int := signed s m (i + 1074).toNat

theorem signed_mul (s : Bool) (m u k : Nat) : signed s m u * ((2 ^ k : Nat) : Int) = signed s m (u + k) := by
  unfold signed
  rw [Nat.shiftLeft_eq, Nat.shiftLeft_eq, Nat.pow_add, ← Nat.mul_assoc]
  cases s
  · simp
  · simp [Int.neg_mul]

theorem signed_scale (s : Bool) (m : Nat) (i b : Int) (hb : -1074 ≤ b) (hi : b ≤ i) : signed s m (i - b).toNat * ((2 ^ (b + 1074).toNat : Nat) : Int) = val s m i := by
  rw [signed_mul]
  unfold val
  congr 1
  omega

theorem signed_opp (s : Bool) (m u : Nat) : signed (!s) m u = - signed s m u := by
  unfold signed
  cases s <;> simp

theorem val_opp (s : Bool) (m : Nat) (i : Int) : val (!s) m i = - val s m i := signed_opp s m _

theorem val_zero (s : Bool) (i : Int) : val s 0 i = 0 := by
  unfold val signed
  cases s <;> simp

theorem val_nat (s : Bool) (m : Nat) (i : Int) : (val s m i).natAbs = m * 2 ^ (i + 1074).toNat := by
  unfold val signed
  rw [Nat.shiftLeft_eq]
  cases s <;> simp [Int.natAbs_mul, Int.natAbs_pow]

theorem pow_pos_int (k : Nat) : (0 : Int) < ((2 ^ k : Nat) : Int) := by
  have := Nat.two_pow_pos k
  omega

theorem cmp_scale (a b : Int) (k : Nat) : compare (a * ((2 ^ k : Nat) : Int)) (b * ((2 ^ k : Nat) : Int)) = compare a b := by
  have hp := pow_pos_int k
  rcases Int.lt_trichotomy a b with h | h | h
  · rw [Int.compare_eq_lt.2 h, Int.compare_eq_lt]
    exact Int.mul_lt_mul_of_pos_right h hp
  · subst h
    rw [Int.compare_eq_eq.2 rfl, Int.compare_eq_eq.2 rfl]
  · rw [Int.compare_eq_gt.2 h, Int.compare_eq_gt]
    exact Int.mul_lt_mul_of_pos_right h hp

theorem order_num (s t : Bool) (m n : Nat) (i j : Int) (hi : -1074 ≤ i) (hj : -1074 ≤ j) : Datum.order (.number s m i) (.number t n j) = some (compare (val s m i) (val t n j)) := by
  simp only [Datum.order]
  rw [← cmp_scale _ _ (min i j + 1074).toNat, signed_scale s m i _ (by omega) (by omega), signed_scale t n j _ (by omega) (by omega)]

/-- A sum of two finite numbers: a number whose size is the sum's. -/
theorem sum_num (s t : Bool) (m n : Nat) (i j : Int) (hi : -1074 ≤ i) (hj : -1074 ≤ j) :
    ∃ neg mag place, Datum.sum (.number s m i) (.number t n j) = some (.number neg mag place) ∧ -1074 ≤ place ∧ mag * 2 ^ (place + 1074).toNat = (val s m i + val t n j).natAbs := by
  refine ⟨_, _, _, rfl, by omega, ?_⟩
  rw [← signed_scale s m i (min i j) (by omega) (by omega), ← signed_scale t n j (min i j) (by omega) (by omega), ← Int.add_mul, Int.natAbs_mul]
  simp

/-- What a finite word reads as, whatever its sign. -/
theorem read_cases (x : Nat) : (∃ s r, r < 9218868437227405312 ∧ double.read x = double.read (double.word s r)) ∨ (∃ s, double.read x = .infinity s) ∨ (∃ s g, double.read x = .nan s g) := by
  by_cases h : x % 9223372036854775808 < 9218868437227405312
  · refine .inl ⟨x / 9223372036854775808 % 2 == 1, x % 9223372036854775808, h, ?_⟩
    rw [read_word _ _ h]
    unfold Format.read
    simp only [dbinade, dinf, dleast, dsign]
    by_cases hs : x % 9223372036854775808 < 4503599627370496
    · rw [if_pos hs, if_pos hs]
    · rw [if_neg hs, if_neg hs, if_pos h]
  · by_cases hi : x % 9223372036854775808 = 9218868437227405312
    · refine .inr (.inl ⟨x / 9223372036854775808 % 2 == 1, ?_⟩)
      unfold Format.read
      simp only [dbinade, dinf, dleast, dsign]
      rw [if_neg (by omega), if_neg h, if_pos hi]
    · refine .inr (.inr ⟨x / 9223372036854775808 % 2 == 1, x % 9223372036854775808 - 9218868437227405312, ?_⟩)
      unfold Format.read
      simp only [dbinade, dinf, dleast, dsign]
      rw [if_neg (by omega), if_neg h, if_neg hi]

/-- A finite word: its number; and its size, written again, gives it back. -/
theorem fin_word (s : Bool) (r : Nat) (h : r < 9218868437227405312) : ∃ m i, double.read (double.word s r) = .number s m i ∧ -1074 ≤ i ∧ (m * 2 ^ (i + 1074).toNat ≠ 0 → double.read (double.nearest s (m * 2 ^ (i + 1074).toNat) (-1074)) = .number s m i) := by
  by_cases hs : r < 4503599627370496
  · refine ⟨r, -1074, by rw [read_word s r h, if_pos hs], by omega, fun h0 => ?_⟩
    have e : r * 2 ^ ((-1074 : Int) + 1074).toNat = r := by simp
    rw [e] at h0 ⊢
    have := near_exact s r h h0
    rw [if_pos hs] at this
    rw [this, read_word s r h, if_pos hs]
  · refine ⟨_, _, by rw [read_word s r h, if_neg hs], by omega, fun h0 => ?_⟩
    have e : ((-1074 : Int) + ((r / 4503599627370496 - 1 : Nat) : Int) + 1074).toNat = r / 4503599627370496 - 1 := by omega
    rw [e] at h0 ⊢
    have := near_exact s r h (by omega)
    rw [if_neg hs] at this
    rw [this, read_word s r h, if_neg hs]

/-- Either way of three, with the number's place bounded. -/
theorem read_three (x : Nat) : (∃ s m i, double.read x = .number s m i ∧ -1074 ≤ i ∧ (m * 2 ^ (i + 1074).toNat ≠ 0 → double.read (double.nearest s (m * 2 ^ (i + 1074).toNat) (-1074)) = .number s m i)) ∨ (∃ s, double.read x = .infinity s) ∨ (∃ s g, double.read x = .nan s g) := by
  rcases read_cases x with ⟨s, r, h, e⟩ | h | h
  · obtain ⟨m, i, h1, h2, h3⟩ := fin_word s r h
    exact .inl ⟨s, m, i, e.trans h1, h2, h3⟩
  · exact .inr (.inl h)
  · exact .inr (.inr h)

/-- What an operation may hand back: its answer; or, where it has none, some NaN. -/
def Res (o : Option Nat) (r : Nat) : Prop := o = some r ∨ (o = none ∧ (double.read r).isNaN = true)

def NaN (x : Nat) : Prop := (double.read x).isNaN = true

theorem nan_of {x : Nat} (h : NaN x) : ∃ s g, double.read x = .nan s g := by
  unfold NaN at h
  rcases read_three x with ⟨s, m, i, e, _⟩ | ⟨s, e⟩ | e
  · rw [e] at h; cases h
  · rw [e] at h; cases h
  · exact e

theorem order_nan_left {x : Nat} (h : NaN x) (y : Nat) : double.order x y = none := by
  obtain ⟨s, g, e⟩ := nan_of h
  unfold Format.order
  rw [e]
  cases double.read y <;> rfl
theorem order_nan_right {y : Nat} (h : NaN y) (x : Nat) : double.order x y = none := by
  obtain ⟨s, g, e⟩ := nan_of h
  unfold Format.order
  rw [e]
  cases double.read x <;> rfl

theorem order_self (d : Datum) (h : d.isNaN = false) (hp : ∀ s m i, d = .number s m i → -1074 ≤ i) : d.order d = some .eq := by
  cases d with
  | number s m i =>
    rw [order_num s s m m i i (hp s m i rfl) (hp s m i rfl), Int.compare_eq_eq.2 rfl]
  | infinity s => cases s <;> rfl
  | nan s g => cases h

theorem order_refl {x : Nat} (h : ¬ NaN x) : double.order x x = some .eq := by
  unfold Format.order
  refine order_self _ ?_ ?_
  · unfold NaN at h; simpa using h
  · intro s m i e
    rcases read_three x with ⟨s', m', i', e', hi, _⟩ | ⟨s', e'⟩ | ⟨s', g', e'⟩
    · rw [e] at e'; cases e'; exact hi
    · rw [e] at e'; cases e'
    · rw [e] at e'; cases e'

/-- Equal bits, or both not a number. -/
def SameB (x y : Nat) : Prop := x = y ∨ (NaN x ∧ NaN y)

theorem SameB.refl (x : Nat) : SameB x x := .inl rfl

theorem res_same {op : Nat → Nat → Option Nat} (hop : ∀ x y, NaN x ∨ NaN y → op x y = none) {x x' y y' r r' : Nat} (hx : SameB x x') (hy : SameB y y') (h : Res (op x y) r) (h' : Res (op x' y') r') : SameB r r' := by
  have key : ∀ {r r' : Nat} {o o' : Option Nat}, o = o' → Res o r → Res o' r' → SameB r r' := by
    intro r r' o o' e h h'
    subst e
    rcases h with h | ⟨h, hn⟩ <;> rcases h' with h' | ⟨h', hn'⟩
    · rw [h] at h'; exact .inl (Option.some.inj h')
    · rw [h] at h'; cases h'
    · rw [h] at h'; cases h'
    · exact .inr ⟨hn, hn'⟩
  refine key ?_ h h'
  rcases hx with rfl | ⟨h1, h2⟩
  · rcases hy with rfl | ⟨h3, h4⟩
    · rfl
    · rw [hop _ _ (.inr h3), hop _ _ (.inr h4)]
  · rw [hop _ _ (.inl h1), hop _ _ (.inl h2)]

theorem add_nan (x y : Nat) (h : NaN x ∨ NaN y) : double.add x y = none := by
  unfold Format.add
  rcases h with h | h
  · obtain ⟨s, g, e⟩ := nan_of h
    rw [e]; cases double.read y <;> rfl
  · obtain ⟨s, g, e⟩ := nan_of h
    rw [e]; cases double.read x <;> rfl
theorem sub_nan (x y : Nat) (h : NaN x ∨ NaN y) : double.sub x y = none := by
  unfold Format.sub
  rcases h with h | h
  · obtain ⟨s, g, e⟩ := nan_of h
    rw [e]; cases double.read y <;> rfl
  · obtain ⟨s, g, e⟩ := nan_of h
    rw [e]; cases double.read x <;> rfl
theorem mul_nan (x y : Nat) (h : NaN x ∨ NaN y) : double.mul x y = none := by
  unfold Format.mul
  rcases h with h | h
  · obtain ⟨s, g, e⟩ := nan_of h
    rw [e]; cases double.read y <;> rfl
  · obtain ⟨s, g, e⟩ := nan_of h
    rw [e]; cases double.read x <;> rfl
theorem div_nan (x y : Nat) (h : NaN x ∨ NaN y) : double.div x y = none := by
  unfold Format.div
  rcases h with h | h
  · obtain ⟨s, g, e⟩ := nan_of h
    rw [e]; cases double.read y <;> rfl
  · obtain ⟨s, g, e⟩ := nan_of h
    rw [e]; cases double.read x <;> rfl

theorem opp_num (s : Bool) (m : Nat) (i : Int) : (Datum.number s m i).opposite = .number (!s) m i := rfl

/-- The difference of two finite words, not equal, not great: finite, not nought, and of the binade of the exact difference, or the next. -/
theorem sub_binade {x y d : Nat} {s t : Bool} {m n : Nat} {i j : Int} (hx : double.read x = .number s m i) (hy : double.read y = .number t n j) (hi : -1074 ≤ i) (hj : -1074 ≤ j)
    (hne : (val s m i - val t n j).natAbs ≠ 0) (hlog : (val s m i - val t n j).natAbs.log2 ≤ 2090) (hd : Res (double.sub x y) d) :
    ∃ u a k, double.read d = .number u a k ∧ a ≠ 0 ∧ ((val s m i - val t n j).natAbs.log2 : Int) - 1074 ≤ k + a.log2 ∧ k + a.log2 ≤ ((val s m i - val t n j).natAbs.log2 : Int) - 1073 := by
  obtain ⟨neg, mag, place, e, hp, hv⟩ := sum_num s (!t) m n i j hi hj
  rw [val_opp, ← Int.sub_eq_add_neg] at hv
  have hs : double.sub x y = some (double.nearest neg mag place) := by
    unfold Format.sub
    rw [hx, hy, opp_num, e]
    rfl
  rcases hd with h | ⟨h, _⟩
  · rw [hs] at h
    obtain rfl := Option.some.inj h
    have hm : mag ≠ 0 := by
      intro h0
      rw [h0, Nat.zero_mul] at hv
      omega
    have hl := log2_mul_pow mag (place + 1074).toNat hm
    rw [hv] at hl
    obtain ⟨a, k, h1, h2, h3, h4⟩ := near_binade neg mag place hm hp (by omega)
    exact ⟨neg, a, k, h1, h2, by omega, by omega⟩
  · rw [hs] at h; cases h

/-- The quotient of two finite words: its binade is at most the difference of theirs. -/
theorem quo_log (m n digits : Nat) (hm : m ≠ 0) (hn : n ≠ 0) (b : Nat) (hb : b ≤ 1) (more : Nat) (hmore : more = digits + n.log2 - m.log2) (hQ : 2 * (m * 2 ^ more / n) + b ≠ 0) :
    (2 * (m * 2 ^ more / n) + b).log2 + n.log2 ≤ m.log2 + 1 + more := by
  have h1 : m < 2 ^ (m.log2 + 1) := lt_pow_log2 m
  have h2 : 2 ^ n.log2 ≤ n := pow_log2_le hn
  have h0 : 2 ^ m.log2 ≤ m := pow_log2_le hm
  have hle : n.log2 ≤ m.log2 + 1 + more := by omega
  have h3 : m * 2 ^ more / n < 2 ^ (m.log2 + 1 + more - n.log2) := by
    refine (Nat.div_lt_iff_lt_mul (by omega)).2 ?_
    refine Nat.lt_of_lt_of_le ?_ (Nat.mul_le_mul_left _ h2)
    rw [← Nat.pow_add, show m.log2 + 1 + more - n.log2 + n.log2 = m.log2 + 1 + more from by omega, Nat.pow_add]
    exact Nat.mul_lt_mul_of_pos_right h1 (Nat.two_pow_pos _)
  have h4 : 2 * (m * 2 ^ more / n) + b < 2 ^ (m.log2 + 1 + more - n.log2 + 1) := by
    rw [Nat.pow_succ]
    omega
  have h5 := (Nat.log2_lt hQ).2 h4
  omega

theorem div_fin {x y q : Nat} {s t : Bool} {m n : Nat} {i j : Int} (hx : double.read x = .number s m i) (hy : double.read y = .number t n j) (hm : m ≠ 0) (hn : n ≠ 0)
    (hlog : i + m.log2 - (j + n.log2) ≤ 1000) (hq : Res (double.div x y) q) : ∃ u r, r < 9218868437227405312 ∧ q = double.word u r := by
  have hs : double.div x y = some (double.nearest (s ^^ t) (2 * (m * 2 ^ (52 + 2 + n.log2 - m.log2) / n) + (m * 2 ^ (52 + 2 + n.log2 - m.log2) % n != 0).toNat) (i - j - ((52 + 2 + n.log2 - m.log2 : Nat) : Int) - 1)) := by
    unfold Format.div
    rw [hx, hy]
    simp only [Datum.quotient, if_neg hn, dfrac, Nat.shiftLeft_eq, Option.map_some]
    rfl
  rcases hq with h | ⟨h, _⟩
  · rw [hs] at h
    obtain rfl := Option.some.inj h
    have hb : ∀ b : Bool, b.toNat ≤ 1 := by decide
    by_cases hQ : 2 * (m * 2 ^ (52 + 2 + n.log2 - m.log2) / n) + (m * 2 ^ (52 + 2 + n.log2 - m.log2) % n != 0).toNat = 0
    · rw [hQ]
      exact ⟨_, 0, by omega, rfl⟩
    · have hl := quo_log m n (52 + 2) hm hn _ (hb _) _ rfl hQ
      obtain ⟨r, h1, h2⟩ := near_fin (s ^^ t) _ (i - j - ((52 + 2 + n.log2 - m.log2 : Nat) : Int) - 1) hQ (by omega)
      exact ⟨_, r, h2, h1⟩
  · rw [hs] at h; cases h

/-- THE FACTOR OF THE INTERPOLATION IS FINITE: the three times are finite, of modest size, and strictly ordered. -/
theorem factor_fin (K : Nat) (hK : K ≤ 2085) {ta t tb d1 d2 f : Nat} {s1 s2 s3 : Bool} {m1 m2 m3 : Nat} {i1 i2 i3 : Int} (ha : double.read ta = .number s1 m1 i1) (ht : double.read t = .number s2 m2 i2) (hb : double.read tb = .number s3 m3 i3)
    (hi1 : -1074 ≤ i1) (hi2 : -1074 ≤ i2) (hi3 : -1074 ≤ i3) (h1 : val s1 m1 i1 < val s2 m2 i2) (h2 : val s2 m2 i2 < val s3 m3 i3) (hlo : -((2 ^ K : Nat) : Int) ≤ val s1 m1 i1) (hhi : val s3 m3 i3 ≤ ((2 ^ K : Nat) : Int))
    (r1 : Res (double.sub t ta) d1) (r2 : Res (double.sub tb ta) d2) (r3 : Res (double.div d1 d2) f) : ∃ u r, r < 9218868437227405312 ∧ f = double.word u r := by
  have hpow : ((2 ^ K : Nat) : Int) + ((2 ^ K : Nat) : Int) = ((2 ^ (K + 1) : Nat) : Int) := by
    rw [← Int.natCast_add, Nat.pow_succ, Nat.mul_two]
  have n1 : (val s2 m2 i2 - val s1 m1 i1).natAbs ≠ 0 := by omega
  have n2 : (val s3 m3 i3 - val s1 m1 i1).natAbs ≠ 0 := by omega
  have b2 : (val s3 m3 i3 - val s1 m1 i1).natAbs ≤ 2 ^ (K + 1) := by
    have : val s3 m3 i3 - val s1 m1 i1 ≤ ((2 ^ (K + 1) : Nat) : Int) := by rw [← hpow]; omega
    omega
  have l2 : (val s3 m3 i3 - val s1 m1 i1).natAbs.log2 < K + 2 := (Nat.log2_lt n2).2 (Nat.lt_of_le_of_lt b2 (Nat.pow_lt_pow_right (by omega) (by omega)))
  have l1 : (val s2 m2 i2 - val s1 m1 i1).natAbs.log2 ≤ (val s3 m3 i3 - val s1 m1 i1).natAbs.log2 := by
    refine (Nat.le_log2 n2).2 (Nat.le_trans (pow_log2_le n1) ?_)
    omega
  obtain ⟨u1, a1, k1, e1, z1, lo1, hi1'⟩ := sub_binade ht ha hi2 hi1 n1 (by omega) r1
  obtain ⟨u2, a2, k2, e2, z2, lo2, hi2'⟩ := sub_binade hb ha hi3 hi1 n2 (by omega) r2
  exact div_fin e1 e2 z1 z2 (by omega) r3

/-- A zero, written and read again. -/
theorem read_zero (s : Bool) : double.read (double.word s 0) = .number s 0 (-1074) := by
  rw [read_word s 0 (by omega), if_pos (by omega)]

theorem near_zero (s : Bool) (i : Int) : double.nearest s 0 i = double.word s 0 := by
  unfold Format.nearest
  rw [if_pos rfl]

/-- WHERE BOTH ENDS ARE ONE FINITE NUMBER, THE INTERPOLATED VALUE IS THAT NUMBER. -/
theorem kept {f xa xb d m r : Nat} (hf : ∃ u g, g < 9218868437227405312 ∧ f = double.word u g) (hab : double.order xa xb = some .eq) (hfin : ∃ s k i, double.read xa = .number s k i)
    (r1 : Res (double.sub xb xa) d) (r2 : Res (double.mul f d) m) (r3 : Res (double.add xa m) r) : double.order r xa = some .eq := by
  obtain ⟨sa, ma, ia, ea⟩ := hfin
  have ha : -1074 ≤ ia ∧ (ma * 2 ^ (ia + 1074).toNat ≠ 0 → double.read (double.nearest sa (ma * 2 ^ (ia + 1074).toNat) (-1074)) = .number sa ma ia) := by
    rcases read_three xa with ⟨s, k, i, e, h1, h2⟩ | ⟨s, e⟩ | ⟨s, g, e⟩
    · rw [ea] at e; cases e; exact ⟨h1, h2⟩
    · rw [ea] at e; cases e
    · rw [ea] at e; cases e
  obtain ⟨hia, hback⟩ := ha
  -- the other end
  obtain ⟨sb, mb, ib, eb, hib, hv⟩ : ∃ sb mb ib, double.read xb = .number sb mb ib ∧ -1074 ≤ ib ∧ val sa ma ia = val sb mb ib := by
    unfold Format.order at hab
    rw [ea] at hab
    rcases read_three xb with ⟨s, k, i, e, h1, _⟩ | ⟨s, e⟩ | ⟨s, g, e⟩
    · rw [e, order_num sa s ma k ia i hia h1] at hab
      exact ⟨s, k, i, e, h1, Int.compare_eq_eq.1 (Option.some.inj hab)⟩
    · rw [e] at hab; cases s <;> cases hab
    · rw [e] at hab; cases hab
  -- the difference is a zero
  obtain ⟨n1, e1⟩ : ∃ s, d = double.word s 0 := by
    obtain ⟨neg, mag, place, e, hp, hz⟩ := sum_num sb (!sa) mb ma ib ia hib hia
    rw [val_opp, ← hv] at hz
    have hm : mag = 0 := by
      have h0 : mag * 2 ^ (place + 1074).toNat = 0 := by omega
      rcases Nat.mul_eq_zero.1 h0 with h | h
      · exact h
      · exact absurd h (Nat.ne_of_gt (Nat.two_pow_pos _))
    have hs : double.sub xb xa = some (double.word neg 0) := by
      unfold Format.sub
      rw [eb, ea, opp_num, e, hm]
      show some (double.nearest neg 0 place) = _
      rw [near_zero]
    rcases r1 with h | ⟨h, _⟩
    · rw [hs] at h; exact ⟨neg, (Option.some.inj h).symm⟩
    · rw [hs] at h; cases h
  subst e1
  -- so is the product
  obtain ⟨n2, e2⟩ : ∃ s, m = double.word s 0 := by
    obtain ⟨u, g, hg, rfl⟩ := hf
    obtain ⟨mf, jf, ef, _⟩ := fin_word u g hg
    have hs : double.mul (double.word u g) (double.word n1 0) = some (double.word (u ^^ n1) 0) := by
      unfold Format.mul
      rw [ef, read_zero]
      show some (double.nearest (u ^^ n1) (mf * 0) _) = _
      rw [Nat.mul_zero, near_zero]
    rcases r2 with h | ⟨h, _⟩
    · rw [hs] at h; exact ⟨_, (Option.some.inj h).symm⟩
    · rw [hs] at h; cases h
  subst e2
  -- and the sum is the end
  have hmin : min ia (-1074) = -1074 := by omega
  have htot : signed sa ma (ia - -1074).toNat + signed n2 0 ((-1074 : Int) - -1074).toNat = val sa ma ia := by
    have : signed n2 0 ((-1074 : Int) - -1074).toNat = 0 := by unfold signed; cases n2 <;> simp
    rw [this, Int.add_zero]
    unfold val
    congr 1
  have hs : double.add xa (double.word n2 0) = some (double.nearest (if val sa ma ia = 0 then sa && n2 else val sa ma ia < 0) (val sa ma ia).natAbs (-1074)) := by
    unfold Format.add
    rw [ea, read_zero]
    simp only [Datum.sum, hmin, htot]
    rfl
  rcases r3 with h | ⟨h, _⟩
  · rw [hs] at h
    obtain rfl := Option.some.inj h
    by_cases h0 : val sa ma ia = 0
    · rw [if_pos h0, h0]
      show double.order (double.nearest (sa && n2) 0 (-1074)) xa = _
      rw [near_zero]
      unfold Format.order
      rw [read_zero, ea, order_num _ _ _ _ _ _ (by omega) hia, val_zero, h0, Int.compare_eq_eq.2 rfl]
    · rw [if_neg h0, val_nat]
      have hnz : ma * 2 ^ (ia + 1074).toNat ≠ 0 := by rw [← val_nat sa]; omega
      have hsg : decide (val sa ma ia < 0) = sa := by
        have hm : ma ≠ 0 := by intro e; rw [e, Nat.zero_mul] at hnz; exact hnz rfl
        have hp : 0 < ma <<< (ia + 1074).toNat := by rw [Nat.shiftLeft_eq]; omega
        unfold val signed
        cases sa
        · simp only [Bool.false_eq_true, if_false]
          exact decide_eq_false (by omega)
        · simp only [if_true]
          exact decide_eq_true (by omega)
      rw [hsg]
      unfold Format.order
      rw [hback hnz, ea, order_num _ _ _ _ _ _ hia hia, Int.compare_eq_eq.2 rfl]
  · rw [hs] at h; cases h

end Go.Proofs.Qxb6604250a
