/-
  THE PLAIN LAW of the grammar: the text read from the left and the text read from the end say the same. No program in sight.
-/
import Derived.Test.Qxb6604254aTodPlain
namespace Go.Proofs.Qxb6604254a

/-- The fraction, as the model reads it. -/
def fracB (F : Nat) (d : Nat → Int) : Bool := decide (F = 0 ∨ (2 ≤ F ∧ d 0 = 46 ∧ ∀ i, i < F → 1 ≤ i → 48 ≤ d i ∧ d i ≤ 57))

def bodyB (L : Nat) (c : Nat → Int) : Bool := decide (9 ≤ L) && (clockB c && fracB (L - 9) (fun i => c (9 + i)))

/-- The whole, read from the end. -/
def modB (n : Nat) (c : Nat → Int) : Bool :=
  if n = 0 then false
  else if c (n - 1) = 90 ∨ c (n - 1) = 122 then bodyB (n - 1) c
  else if 6 ≤ n ∧ (c (n - 6) = 43 ∨ c (n - 6) = 45) then (tdB (c (n - 5)) (c (n - 4)) 23 && (decide (c (n - 3) = 58) && tdB (c (n - 2)) (c (n - 1)) 59)) && bodyB (n - 6) c
  else false

theorem tdB_iff (x y most : Int) : tdB x y most = true ↔ (48 ≤ x ∧ x ≤ 57 ∧ 48 ≤ y ∧ y ≤ 57 ∧ (x - 48) * 10 + (y - 48) ≤ most) := by
  unfold tdB
  exact decide_eq_true_iff

theorem run_to' (d : Nat → Int) (j : Nat) : ∀ (f k : Nat), (∀ i, k ≤ i → i < k + j → 48 ≤ d i ∧ d i ≤ 57) → ¬ (48 ≤ d (k + j) ∧ d (k + j) ≤ 57) → j ≤ f → runD d f k = k + j := by
  induction j with
  | zero =>
    intro f k _ hs _
    cases f with
    | zero => rfl
    | succ f =>
      have hs' : ¬ (48 ≤ d k ∧ d k ≤ 57) := hs
      show (if 48 ≤ d k ∧ d k ≤ 57 then runD d f (k + 1) else k) = _
      rw [if_neg hs']
      rfl
  | succ j ih =>
    intro f k hd hs hf
    obtain ⟨f, rfl⟩ : ∃ f', f = f' + 1 := ⟨f - 1, by omega⟩
    show (if 48 ≤ d k ∧ d k ≤ 57 then runD d f (k + 1) else k) = _
    rw [if_pos (hd k (Nat.le_refl _) (by omega)), ih f (k + 1) (fun i h1 h2 => hd i (by omega) (by omega)) (by rw [show k + 1 + j = k + (j + 1) from by omega]; exact hs) (by omega)]
    omega

/-- Where the run of digits ends: all before are digits. -/
theorem run_spec (d : Nat → Int) : ∀ (f k : Nat), k ≤ runD d f k ∧ runD d f k ≤ k + f ∧ ∀ i, k ≤ i → i < runD d f k → 48 ≤ d i ∧ d i ≤ 57 := by
  intro f
  induction f with
  | zero => intro k; exact ⟨Nat.le_refl _, Nat.le_refl _, fun i h1 h2 => by have : runD d 0 k = k := rfl; omega⟩
  | succ f ih =>
    intro k
    by_cases h : 48 ≤ d k ∧ d k ≤ 57
    · have e : runD d (f + 1) k = runD d f (k + 1) := by
        show (if 48 ≤ d k ∧ d k ≤ 57 then runD d f (k + 1) else k) = _
        rw [if_pos h]
      rw [e]
      obtain ⟨a, b, c⟩ := ih (k + 1)
      refine ⟨by omega, by omega, fun i h1 h2 => ?_⟩
      by_cases e2 : i = k
      · rw [e2]; exact h
      · exact c i (by omega) h2
    · have e : runD d (f + 1) k = k := by
        show (if 48 ≤ d k ∧ d k ≤ 57 then runD d f (k + 1) else k) = _
        rw [if_neg h]
      rw [e]
      exact ⟨Nat.le_refl _, by omega, fun i h1 h2 => by omega⟩

theorem fracB_iff (F : Nat) (d : Nat → Int) : fracB F d = true ↔ (F = 0 ∨ (2 ≤ F ∧ d 0 = 46 ∧ ∀ i, i < F → 1 ≤ i → 48 ≤ d i ∧ d i ≤ 57)) := by
  unfold fracB
  exact decide_eq_true_iff

/-- The zone's ways. -/
theorem zoneB_iff (m : Nat) (d : Nat → Int) : zoneB m d = true ↔ ((m = 1 ∧ (d 0 = 90 ∨ d 0 = 122)) ∨ (m = 6 ∧ (d 0 = 43 ∨ d 0 = 45) ∧ tdB (d 1) (d 2) 23 = true ∧ d 3 = 58 ∧ tdB (d 4) (d 5) 59 = true)) := by
  unfold zoneB
  simp only [Bool.or_eq_true, Bool.and_eq_true, decide_eq_true_eq]
  constructor
  · rintro (h | ⟨⟨h1, h2⟩, h3, h4, h5⟩)
    · exact .inl h
    · exact .inr ⟨h1, h2, h3, h4, h5⟩
  · rintro (h | ⟨h1, h2, h3, h4, h5⟩)
    · exact .inl h
    · exact .inr ⟨⟨h1, h2⟩, h3, h4, h5⟩

theorem zone_first {m : Nat} {d : Nat → Int} (h : zoneB m d = true) : d 0 = 90 ∨ d 0 = 122 ∨ d 0 = 43 ∨ d 0 = 45 := by
  rcases (zoneB_iff m d).1 h with ⟨_, h | h⟩ | ⟨_, h | h, _⟩
  · exact .inl h
  · exact .inr (.inl h)
  · exact .inr (.inr (.inl h))
  · exact .inr (.inr (.inr h))

theorem tailB_iff (m : Nat) (d : Nat → Int) (hm : 1 ≤ m) : tailB m d = true ↔ ∃ k, k ≤ m ∧ fracB k d = true ∧ zoneB (m - k) (fun i => d (k + i)) = true := by
  unfold tailB
  constructor
  · intro h
    by_cases h0 : d 0 = 46
    · rw [if_pos h0] at h
      by_cases h1 : runD d (m - 1) 1 = 1
      · rw [if_pos h1] at h; cases h
      · rw [if_neg h1] at h
        obtain ⟨a, b, c⟩ := run_spec d (m - 1) 1
        exact ⟨runD d (m - 1) 1, by omega, (fracB_iff _ _).2 (.inr ⟨by omega, h0, fun i hi h1i => c i h1i hi⟩), h⟩
    · rw [if_neg h0] at h
      refine ⟨0, Nat.zero_le _, (fracB_iff _ _).2 (.inl rfl), ?_⟩
      have e : (fun i => d (0 + i)) = d := by funext i; rw [Nat.zero_add]
      rw [e]
      exact h
  · rintro ⟨k, hk, hf, hz⟩
    have hfirst := zone_first hz
    simp only [Nat.add_zero] at hfirst
    rcases (fracB_iff k d).1 hf with h0 | ⟨h2, h46, hdig⟩
    · subst h0
      have e : (fun i => d (0 + i)) = d := by funext i; rw [Nat.zero_add]
      rw [e] at hz
      rw [if_neg (by omega)]
      exact hz
    · have hr : runD d (m - 1) 1 = 1 + (k - 1) := run_to' d (k - 1) (m - 1) 1 (fun i h1 h3 => hdig i (by omega) h1) (by rw [show 1 + (k - 1) = k from by omega]; omega) (by omega)
      rw [show 1 + (k - 1) = k from by omega] at hr
      rw [if_pos h46, hr, if_neg (by omega)]
      exact hz

theorem bodyB_iff (L : Nat) (c : Nat → Int) : bodyB L c = true ↔ (9 ≤ L ∧ clockB c = true ∧ fracB (L - 9) (fun i => c (9 + i)) = true) := by
  unfold bodyB
  simp only [Bool.and_eq_true, decide_eq_true_eq]

theorem tod_mod (n : Nat) (c : Nat → Int) : todB n c = modB n c := by
  rw [Bool.eq_iff_iff]
  unfold todB modB
  simp only [Bool.and_eq_true, decide_eq_true_eq]
  constructor
  · rintro ⟨hn, hc, ht⟩
    obtain ⟨k, hk, hf, hz⟩ := (tailB_iff _ _ (by omega)).1 ht
    rw [if_neg (by omega)]
    rcases (zoneB_iff _ _).1 hz with ⟨h1, h2⟩ | ⟨h1, h2, h3, h4, h5⟩
    · have e : 9 + (k + 0) = n - 1 := by omega
      rw [e] at h2
      rw [if_pos h2]
      refine (bodyB_iff _ _).2 ⟨by omega, hc, ?_⟩
      rw [show n - 1 - 9 = k from by omega]
      exact hf
    · have e0 : 9 + (k + 0) = n - 6 := by omega
      have e1 : 9 + (k + 1) = n - 5 := by omega
      have e2 : 9 + (k + 2) = n - 4 := by omega
      have e3 : 9 + (k + 3) = n - 3 := by omega
      have e4 : 9 + (k + 4) = n - 2 := by omega
      have e5 : 9 + (k + 5) = n - 1 := by omega
      rw [e0] at h2
      rw [e1, e2] at h3
      rw [e3] at h4
      rw [e4, e5] at h5
      have h5' := (tdB_iff _ _ _).1 h5
      rw [if_neg (by omega), if_pos ⟨by omega, h2⟩]
      simp only [Bool.and_eq_true, decide_eq_true_eq]
      refine ⟨⟨h3, h4, h5⟩, (bodyB_iff _ _).2 ⟨by omega, hc, ?_⟩⟩
      rw [show n - 6 - 9 = k from by omega]
      exact hf
  · intro h
    by_cases h0 : n = 0
    · rw [if_pos h0] at h; cases h
    · rw [if_neg h0] at h
      by_cases h1 : c (n - 1) = 90 ∨ c (n - 1) = 122
      · rw [if_pos h1] at h
        obtain ⟨hl, hc, hf⟩ := (bodyB_iff _ _).1 h
        refine ⟨by omega, hc, (tailB_iff _ _ (by omega)).2 ⟨n - 1 - 9, by omega, hf, (zoneB_iff _ _).2 (.inl ⟨by omega, ?_⟩)⟩⟩
        have e : 9 + (n - 1 - 9 + 0) = n - 1 := by omega
        rw [e]
        exact h1
      · rw [if_neg h1] at h
        by_cases h2 : 6 ≤ n ∧ (c (n - 6) = 43 ∨ c (n - 6) = 45)
        · rw [if_pos h2] at h
          simp only [Bool.and_eq_true, decide_eq_true_eq] at h
          obtain ⟨⟨h3, h4, h5⟩, hb⟩ := h
          obtain ⟨hl, hc, hf⟩ := (bodyB_iff _ _).1 hb
          refine ⟨by omega, hc, (tailB_iff _ _ (by omega)).2 ⟨n - 6 - 9, by omega, hf, (zoneB_iff _ _).2 (.inr ⟨by omega, ?_⟩)⟩⟩
          have e0 : 9 + (n - 6 - 9 + 0) = n - 6 := by omega
          have e1 : 9 + (n - 6 - 9 + 1) = n - 5 := by omega
          have e2 : 9 + (n - 6 - 9 + 2) = n - 4 := by omega
          have e3 : 9 + (n - 6 - 9 + 3) = n - 3 := by omega
          have e4 : 9 + (n - 6 - 9 + 4) = n - 2 := by omega
          have e5 : 9 + (n - 6 - 9 + 5) = n - 1 := by omega
          rw [e0, e1, e2, e3, e4, e5]
          exact ⟨h2.2, h3, h4, h5⟩
        · rw [if_neg h2] at h; cases h
end Go.Proofs.Qxb6604254a
