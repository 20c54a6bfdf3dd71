/-
  PLAIN ARITHMETIC for the seat b6604194a: factorials, classes of peers. No Go in sight.
-/
import Derived.Test.Qxb6604194aPlain
namespace Go.Proofs.Qxb6604194a

def fac : Nat → Nat
  | 0 => 1
  | n + 1 => (n + 1) * fac n

theorem fac_pos (n : Nat) : 1 ≤ fac n := by
  induction n with
  | zero => exact Nat.le_refl _
  | succ n ih => exact Nat.mul_pos (Nat.succ_pos _) ih

theorem fac_mono {a b : Nat} (h : a ≤ b) : fac a ≤ fac b := by
  induction b with
  | zero => have : a = 0 := by omega
            subst this; exact Nat.le_refl _
  | succ b ih =>
    by_cases e : a = b + 1
    · subst e; exact Nat.le_refl _
    · refine Nat.le_trans (ih (by omega)) ?_
      show fac b ≤ (b + 1) * fac b
      exact Nat.le_mul_of_pos_left _ (Nat.succ_pos _)

/-- The size of group c of n subscribers under the period p. -/
def sz (n p c : Nat) : Nat := (n - 1 - c) / p + 1

/-- The product of the factorials of the first classes. -/
def prodF (n p : Nat) : Nat → Nat
  | 0 => 1
  | c + 1 => prodF n p c * fac (sz n p c)

theorem prodF_pos (n p c : Nat) : 1 ≤ prodF n p c := by
  induction c with
  | zero => exact Nat.le_refl _
  | succ c ih => exact Nat.mul_pos ih (fac_pos _)

theorem prodF_mono (n p : Nat) {a b : Nat} (h : a ≤ b) : prodF n p a ≤ prodF n p b := by
  induction b with
  | zero => have : a = 0 := by omega
            subst this; exact Nat.le_refl _
  | succ b ih =>
    by_cases e : a = b + 1
    · subst e; exact Nat.le_refl _
    · refine Nat.le_trans (ih (by omega)) ?_
      show prodF n p b ≤ prodF n p b * fac (sz n p b)
      exact Nat.le_mul_of_pos_right _ (fac_pos _)

theorem sz_le (n p c : Nat) (hn : 1 ≤ n) : sz n p c ≤ n := by
  unfold sz
  have : (n - 1 - c) / p ≤ n - 1 - c := Nat.div_le_self _ _
  omega

/-- One step of the inner loop. -/
theorem step_prod (n p c k : Nat) (hk : 2 ≤ k) : prodF n p c * fac (k - 1) * k = prodF n p c * fac k := by
  obtain ⟨j, rfl⟩ : ∃ j, k = j + 1 := ⟨k - 1, by omega⟩
  show prodF n p c * fac j * (j + 1) = prodF n p c * ((j + 1) * fac j)
  rw [Nat.mul_assoc, Nat.mul_comm (fac j)]

/-- The way out in the middle: the number is above 720 and within 720 * n; the whole product is above 720 too. -/
theorem early (n p c k : Nat) (hn : 1 ≤ n) (hc : c < p) (hk : 2 ≤ k) (hk2 : k ≤ sz n p c) (hb : prodF n p c * fac (k - 1) ≤ 720) (hx : 720 < prodF n p c * fac (k - 1) * k) :
    prodF n p c * fac (k - 1) * k ≤ 720 * n ∧ 720 < prodF n p p := by
  constructor
  · exact Nat.mul_le_mul hb (Nat.le_trans hk2 (sz_le n p c hn))
  · rw [step_prod n p c k hk] at hx
    refine Nat.lt_of_lt_of_le hx ?_
    refine Nat.le_trans (Nat.mul_le_mul_left _ (fac_mono hk2)) ?_
    show prodF n p (c + 1) ≤ _
    exact prodF_mono n p hc

/-- What 'permutations' gives: the product where it is at most 720; else a number above 720 and within 720 * n. -/
def PermAns (n p r : Nat) : Prop := (r = prodF n p p ∧ r ≤ 720) ∨ (720 < r ∧ r ≤ 720 * n ∧ 720 < prodF n p p)

theorem perF_of_neg (n h s : Int) (hs : 1 ≤ s) (hh : 1 ≤ h) (hn : n ≤ 0) : perF n h s = n := by
  unfold perF
  by_cases hc : n.tdiv s < h / gcdI h s
  · rw [if_pos hc]
  · exfalso
    have := prod_le n s _ hs (quot_pos h s hh) hc
    omega

theorem perF_of_pos (n h s : Int) (hs : 1 ≤ s) (hh : 1 ≤ h) (hn : 1 ≤ n) : 1 ≤ perF n h s ∧ perF n h s ≤ n := by
  unfold perF
  by_cases hc : n.tdiv s < h / gcdI h s
  · rw [if_pos hc]; omega
  · rw [if_neg hc]
    have := prod_le n s _ hs (quot_pos h s hh) hc
    omega

/-- The product is 1 exactly where no group has two members. -/
theorem prodF_one_iff (n p : Nat) (hp : 1 ≤ p) (hpn : p ≤ n) : prodF n p p = 1 ↔ n ≤ p := by
  constructor
  · intro h
    by_cases hlt : p < n
    · exfalso
      have h1 := prodF_mono n p hp
      have h2 : prodF n p 1 = fac (sz n p 0) := by simp [prodF]
      have h3 : 2 ≤ sz n p 0 := by
        unfold sz
        have : 1 ≤ (n - 1 - 0) / p := (Nat.le_div_iff_mul_le (by omega)).2 (by omega)
        omega
      have h4 := fac_mono h3
      have h5 : fac 2 = 2 := rfl
      omega
    · omega
  · intro h
    have e : n = p := by omega
    subst e
    have : ∀ c, c ≤ n → prodF n n c = 1 := by
      intro c
      induction c with
      | zero => intro _; rfl
      | succ c ih =>
        intro hc
        show prodF n n c * fac (sz n n c) = 1
        have h0 : (n - 1 - c) / n = 0 := Nat.div_eq_of_lt (by omega)
        rw [ih (by omega)]
        unfold sz
        rw [h0]
        rfl
    exact this n (Nat.le_refl _)

theorem permAns_pos {n p r : Nat} (h : PermAns n p r) : 1 ≤ r := by
  rcases h with ⟨h, _⟩ | ⟨h, _, _⟩
  · rw [h]; exact prodF_pos _ _ _
  · omega

theorem permAns_one_iff {n p r : Nat} (hp : 1 ≤ p) (hpn : p ≤ n) (h : PermAns n p r) : r = 1 ↔ n ≤ p := by
  rw [← prodF_one_iff n p hp hpn]
  rcases h with ⟨h, _⟩ | ⟨h, _, h2⟩
  · rw [h]
  · constructor <;> intro _ <;> omega

end Go.Proofs.Qxb6604194a
