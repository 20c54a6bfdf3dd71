import Derived.Test.Qxb6604194aLcmI
namespace Go.Proofs.Qxb6604194a
open Go.RowKit

theorem ret_bool' {a b : Bool} (h : a = b) : Ending.returned (.bool a) = .returned (.bool b) := by rw [h]

/-- No network of a kind: true at once. -/
theorem per_out (n s h m v q c r : Int) (f a x u g : Bool) (k : Int) (w : World) (ho : h < 1 ∨ s < 1) :
    Calls Try.prog 3 #[.agg #[.int .i64 n, .int .i64 s, .int .i64 h, .int .u8 m, .int .u8 v, .int .i64 q, .bool f, .int .i64 c, .bool a, .bool x, .int .u8 r, .bool u, .bool g], .int .u8 k] w fun e w' => e = .returned (.bool true) ∧ Below w.heap.size w w' := by
  by_cases h2 : h < 1
  · go_enter Try.func3, Try.ntmps3
    go_wp2
    go_ret
    exact ⟨rfl, (Below.refl _ _).alloc (Nat.le_refl _) _⟩
  · have h3 : s < 1 := by omega
    clear ho
    go_enter Try.func3, Try.ntmps3
    go_wp2
    go_ret
    exact ⟨rfl, (Below.refl _ _).alloc (Nat.le_refl _) _⟩

set_option maxHeartbeats 1000000 in
/-- Another reduction. -/
theorem per_other (n s h m v q c r : Int) (f a x u g : Bool) (k : Int) (hk : (k != 1) = true) (w : World) (hs : 1 ≤ s) (hh : 1 ≤ h) :
    Calls Try.prog 3 #[.agg #[.int .i64 n, .int .i64 s, .int .i64 h, .int .u8 m, .int .u8 v, .int .i64 q, .bool f, .int .i64 c, .bool a, .bool x, .int .u8 r, .bool u, .bool g], .int .u8 k] w fun e w' => e = .returned (.bool true) ∧ Below w.heap.size w w' := by
  have h2 : ¬ h < 1 := by omega
  have h3 : ¬ s < 1 := by omega
  go_enter Try.func3, Try.ntmps3
  go_wp2_with fail
  refine (topology_below n s h m v q c r f a x u g _).mono ?_
  rintro e w1 ⟨rfl, hb1⟩
  obtain ⟨hc1, hf1⟩ := bcell hb1
  have hz1 : w.heap.size < w1.heap.size := by have := hb1.size; simp at this; omega
  go_wp2_with fail
  refine (zzperiod_not n s h m v q c r f a x u g k hk _).mono ?_
  rintro e w2 ⟨rfl, hb2⟩
  obtain ⟨hc2, hf2⟩ := bcell hb2
  have hz2 : w.heap.size < w2.heap.size := by have := hb2.size; omega
  go_wp2
  go_ret
  exact ⟨ret_bool' (by simp), (((Below.refl _ _).alloc (Nat.le_refl _) _).trans (hb1.mono (by simp))).trans (hb2.mono (by omega))⟩

set_option maxHeartbeats 1000000 in
/-- Under subscriber symmetry, where the least common multiple fits. -/
theorem per_fit (n s h m v q c r : Int) (f a x u g : Bool) (P : Int) (w : World) (hs : 1 ≤ s) (hh : 1 ≤ h) (hn1 : -9223372036854775808 ≤ n) (hn2 : n ≤ 9223372036854775807) (hs2 : s ≤ 9223372036854775807) (hh2 : h ≤ 9223372036854775807)
    (HF : Hid (Fit n h s)) (HP : Hid (perF n h s = P)) (hP0 : 0 ≤ P) (hP1 : P ≤ 9223372036854775807) :
    Calls Try.prog 3 #[.agg #[.int .i64 n, .int .i64 s, .int .i64 h, .int .u8 m, .int .u8 v, .int .i64 q, .bool f, .int .i64 c, .bool a, .bool x, .int .u8 r, .bool u, .bool g], .int .u8 1] w fun e w' => e = .returned (.bool true) ∧ Below w.heap.size w w' := by
  have h2 : ¬ h < 1 := by omega
  have h3 : ¬ s < 1 := by omega
  go_enter Try.func3, Try.ntmps3
  go_wp2_with fail
  refine (topology_below n s h m v q c r f a x u g _).mono ?_
  rintro e w1 ⟨rfl, hb1⟩
  obtain ⟨hc1, hf1⟩ := bcell hb1
  have hz1 : w.heap.size < w1.heap.size := by have := hb1.size; simp at this; omega
  go_wp2_with fail
  refine (zzperiod_sym n s h m v q c r f a x u g _ hs hh hn1 hn2 hs2 hh2).mono ?_
  rw [HP.out]
  rintro e w2 ⟨rfl, hb2⟩
  obtain ⟨hc2, hf2⟩ := bcell hb2
  have hz2 : w.heap.size < w2.heap.size := by have := hb2.size; omega
  go_wp2_with fail
  refine (lcm_fitI h s n P hs hh hn2 hs2 hh2 HF.out HP _).mono ?_
  rintro e w3 ⟨rfl, rfl⟩
  go_wp2
  go_ret
  exact ⟨ret_bool' (by simp), (((Below.refl _ _).alloc (Nat.le_refl _) _).trans (hb1.mono (by simp))).trans (hb2.mono (by omega))⟩

set_option maxHeartbeats 1000000 in
/-- Under subscriber symmetry, where it does not. -/
theorem per_notfit (n s h m v q c r : Int) (f a x u g : Bool) (w : World) (hs : 1 ≤ s) (hh : 1 ≤ h) (hn1 : -9223372036854775808 ≤ n) (hn2 : n ≤ 9223372036854775807) (hs2 : s ≤ 9223372036854775807) (hh2 : h ≤ 9223372036854775807)
    (HF : Hid (¬ Fit n h s)) (HP : Hid (perF n h s = n)) :
    Calls Try.prog 3 #[.agg #[.int .i64 n, .int .i64 s, .int .i64 h, .int .u8 m, .int .u8 v, .int .i64 q, .bool f, .int .i64 c, .bool a, .bool x, .int .u8 r, .bool u, .bool g], .int .u8 1] w fun e w' => e = .returned (.bool true) ∧ Below w.heap.size w w' := by
  have h2 : ¬ h < 1 := by omega
  have h3 : ¬ s < 1 := by omega
  go_enter Try.func3, Try.ntmps3
  go_wp2_with fail
  refine (topology_below n s h m v q c r f a x u g _).mono ?_
  rintro e w1 ⟨rfl, hb1⟩
  obtain ⟨hc1, hf1⟩ := bcell hb1
  have hz1 : w.heap.size < w1.heap.size := by have := hb1.size; simp at this; omega
  go_wp2_with fail
  refine (zzperiod_sym n s h m v q c r f a x u g _ hs hh hn1 hn2 hs2 hh2).mono ?_
  rw [HP.out]
  rintro e w2 ⟨rfl, hb2⟩
  obtain ⟨hc2, hf2⟩ := bcell hb2
  have hz2 : w.heap.size < w2.heap.size := by have := hb2.size; omega
  go_wp2_with fail
  refine (lcm_notI h s n hs hh hn2 hs2 hh2 HF.out _).mono ?_
  rintro e w3 ⟨rfl, rfl⟩
  go_wp2
  go_ret
  exact ⟨ret_bool' (by simp), (((Below.refl _ _).alloc (Nat.le_refl _) _).trans (hb1.mono (by simp))).trans (hb2.mono (by omega))⟩
end Go.Proofs.Qxb6604194a
