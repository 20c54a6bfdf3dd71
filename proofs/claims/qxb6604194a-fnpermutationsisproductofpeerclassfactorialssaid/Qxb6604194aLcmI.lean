import Derived.Test.Qxb6604194aLcm
namespace Go.Proofs.Qxb6604194a
open Go.RowKit

/-- The least common multiple is at most n. -/
def Fit (n h s : Int) : Prop := 0 ≤ n ∧ h / gcdI h s * s ≤ n

theorem perF_fit (n h s : Int) (hs : 1 ≤ s) (hf : Fit n h s) : perF n h s = h / gcdI h s * s := by
  unfold perF
  obtain ⟨h0, h1⟩ := hf
  rw [if_neg]
  rw [Int.tdiv_eq_ediv_of_nonneg h0]
  have := (Int.le_ediv_iff_mul_le (a := h / gcdI h s) (b := n) (c := s) (by omega)).2 h1
  omega

theorem perF_notfit (n h s : Int) (hs : 1 ≤ s) (hh : 1 ≤ h) (hf : ¬ Fit n h s) : perF n h s = n := by
  unfold perF
  by_cases hc : n.tdiv s < h / gcdI h s
  · rw [if_pos hc]
  · exfalso
    have := prod_le n s _ hs (quot_pos h s hh) hc
    exact hf ⟨this.1, this.2.1⟩

theorem lcm_fitI (h s n P : Int) (hs : 1 ≤ s) (hh : 1 ≤ h) (hn2 : n ≤ 9223372036854775807) (hs2 : s ≤ 9223372036854775807) (hh2 : h ≤ 9223372036854775807) (hf : Fit n h s) (HP : Hid (perF n h s = P)) (w : World) :
    Calls Try.prog 8 #[.int .u64 h, .int .u64 s, .int .i64 n] w fun e w' => e = .returned (.tuple #[.int .u64 P, .bool true]) ∧ w' = w := by
  have e := HP.out
  rw [perF_fit n h s hs hf] at e
  rw [← e]
  have hg := gcdI_pos h s hh
  have hq := quot_pos h s hh
  have hq' := quot_le h s hh
  have hp : 1 * 1 ≤ h / gcdI h s * s := Int.mul_le_mul hq hs (by omega) (by omega)
  obtain ⟨h0, h1⟩ := hf
  clear e HP
  unfold gcdI at *
  obtain ⟨A, rfl⟩ := Int.eq_ofNat_of_zero_le (a := h) (by omega)
  obtain ⟨B, rfl⟩ := Int.eq_ofNat_of_zero_le (a := s) (by omega)
  rw [Int.toNat_natCast, Int.toNat_natCast] at *
  exact lcm_fit A B (Nat.gcd A B) rfl (by omega) (by omega) (by omega) hh2 hs2 n h0 hn2 (by omega) (by omega) (by omega) h1 w

theorem lcm_notI (h s n : Int) (hs : 1 ≤ s) (hh : 1 ≤ h) (hn2 : n ≤ 9223372036854775807) (hs2 : s ≤ 9223372036854775807) (hh2 : h ≤ 9223372036854775807) (hf : ¬ Fit n h s) (w : World) :
    Calls Try.prog 8 #[.int .u64 h, .int .u64 s, .int .i64 n] w fun e w' => e = .returned (.tuple #[.int .u64 0, .bool false]) ∧ w' = w := by
  by_cases hn : n < 0
  · exact lcm_neg h s n hn w
  have hg := gcdI_pos h s hh
  have hq := quot_pos h s hh
  have hq' := quot_le h s hh
  have h1 : n < h / gcdI h s * s := by
    by_cases hc : n < h / gcdI h s * s
    · exact hc
    · exact absurd ⟨by omega, by omega⟩ hf
  clear hf
  unfold gcdI at *
  obtain ⟨A, rfl⟩ := Int.eq_ofNat_of_zero_le (a := h) (by omega)
  obtain ⟨B, rfl⟩ := Int.eq_ofNat_of_zero_le (a := s) (by omega)
  rw [Int.toNat_natCast, Int.toNat_natCast] at *
  exact lcm_not A B (Nat.gcd A B) rfl (by omega) (by omega) (by omega) hh2 hs2 n (by omega) hn2 (by omega) (by omega) h1 w
end Go.Proofs.Qxb6604194a
