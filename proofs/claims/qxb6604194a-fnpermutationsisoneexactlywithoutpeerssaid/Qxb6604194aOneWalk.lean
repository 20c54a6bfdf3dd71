import Derived.Test.Qxb6604194aPerms
namespace Go.Proofs.Qxb6604194a
open Go.RowKit

/-- Too many subscribers, or no network of a kind: true at once. -/
theorem one_out (n s h m v q c r : Int) (f a x u g : Bool) (w : World) (ho : 65536 < n ∨ h < 1 ∨ s < 1) :
    Calls Try.prog 5 #[.agg #[.int .i64 n, .int .i64 s, .int .i64 h, .int .u8 m, .int .u8 v, .int .i64 q, .bool f, .int .i64 c, .bool a, .bool x, .int .u8 r, .bool u, .bool g]] w fun e w' => e = .returned (.bool true) ∧ Below w.heap.size w w' := by
  by_cases h1 : 65536 < n
  · go_enter Try.func5, Try.ntmps5
    go_wp2
    go_ret
    exact ⟨rfl, (Below.refl _ _).alloc (Nat.le_refl _) _⟩
  · by_cases h2 : h < 1
    · go_enter Try.func5, Try.ntmps5
      go_wp2
      go_ret
      exact ⟨rfl, (Below.refl _ _).alloc (Nat.le_refl _) _⟩
    · have h3 : s < 1 := by omega
      clear ho
      go_enter Try.func5, Try.ntmps5
      go_wp2
      go_ret
      exact ⟨rfl, (Below.refl _ _).alloc (Nat.le_refl _) _⟩

set_option maxHeartbeats 1000000 in
/-- No subscriber. -/
theorem one_none (n s h m v q c r : Int) (f a x u g : Bool) (w : World) (hs : 1 ≤ s) (hh : 1 ≤ h) (hn1 : -9223372036854775808 ≤ n) (hn2 : n ≤ 0) (hs2 : s ≤ 9223372036854775807) (hh2 : h ≤ 9223372036854775807) :
    Calls Try.prog 5 #[.agg #[.int .i64 n, .int .i64 s, .int .i64 h, .int .u8 m, .int .u8 v, .int .i64 q, .bool f, .int .i64 c, .bool a, .bool x, .int .u8 r, .bool u, .bool g]] w fun e w' => e = .returned (.bool true) ∧ Below w.heap.size w w' := by
  have HP : Hid (perF n h s = n) := perF_of_neg n h s hs hh hn2
  have h1 : ¬ 65536 < n := by omega
  have h2 : ¬ h < 1 := by omega
  have h3 : ¬ s < 1 := by omega
  go_enter Try.func5, Try.ntmps5
  go_wp2_with fail
  refine (topology_below n s h m v q c r f a x u g _).mono ?_
  rintro e w1 ⟨rfl, hb1⟩
  obtain ⟨hc1, hf1⟩ := bcell hb1
  have hz1 : w.heap.size < w1.heap.size := by have := hb1.size; simp at this; omega
  go_wp2_with fail
  refine (zzperms_none n s h m v q c r f a x u g _ hs hh hn1 hn2 hs2 hh2).mono ?_
  rintro e w2 ⟨rfl, hb2⟩
  obtain ⟨hc2, hf2⟩ := bcell hb2
  have hz2 : w.heap.size < w2.heap.size := by have := hb2.size; omega
  go_wp2_with fail
  refine (topology_below n s h m v q c r f a x u g _).mono ?_
  rintro e w3 ⟨rfl, hb3⟩
  obtain ⟨hc3, hf3⟩ := bcell hb3
  have hz3 : w.heap.size < w3.heap.size := by have := hb3.size; omega
  go_wp2_with fail
  refine (zzperiod_sym n s h m v q c r f a x u g _ hs hh hn1 (by omega) hs2 hh2).mono ?_
  rw [HP.out]
  rintro e w4 ⟨rfl, hb4⟩
  obtain ⟨hc4, hf4⟩ := bcell hb4
  go_wp2
  go_ret
  exact ⟨by simp, ((((((Below.refl _ _).alloc (Nat.le_refl _) _).trans (hb1.mono (by simp))).trans (hb2.mono (by omega))).trans (hb3.mono (by omega))).trans (hb4.mono (by omega)))⟩

theorem ret_bool {a b : Bool} (h : a = b) : Ending.returned (.bool a) = .returned (.bool b) := by rw [h]

theorem one_eq (N P k : Nat) (hP1 : 1 ≤ P) (hP2 : P ≤ N) (hk : PermAns N P k) : (((k : Int) == 1) == decide (N ≤ P)) = true := by
  have h := permAns_one_iff hP1 hP2 hk
  by_cases e : k = 1
  · have := h.1 e
    subst e
    simpa using this
  · have h' : ¬ N ≤ P := fun x => e (h.2 x)
    have e2 : ((k : Int) == 1) = false := by rw [beq_eq_false_iff_ne]; omega
    rw [e2, decide_eq_false h']
    rfl

set_option maxHeartbeats 1000000 in
/-- From one to 65536 subscribers. -/
theorem one_some (N P : Nat) (s h m v q c r : Int) (f a x u g : Bool) (w : World) (hs : 1 ≤ s) (hh : 1 ≤ h) (hN1 : 1 ≤ N) (hN2 : N ≤ 65536) (hs2 : s ≤ 9223372036854775807) (hh2 : h ≤ 9223372036854775807)
    (HP : Hid (perF (N : Int) h s = (P : Int))) (hP1 : 1 ≤ P) (hP2 : P ≤ N) :
    Calls Try.prog 5 #[.agg #[.int .i64 (N : Int), .int .i64 s, .int .i64 h, .int .u8 m, .int .u8 v, .int .i64 q, .bool f, .int .i64 c, .bool a, .bool x, .int .u8 r, .bool u, .bool g]] w fun e w' => e = .returned (.bool true) ∧ Below w.heap.size w w' := by
  have h1 : ¬ (65536 : Int) < (N : Int) := by omega
  have h2 : ¬ h < 1 := by omega
  have h3 : ¬ s < 1 := by omega
  go_enter Try.func5, Try.ntmps5
  go_wp2_with fail
  refine (topology_below (N : Int) s h m v q c r f a x u g _).mono ?_
  rintro e w1 ⟨rfl, hb1⟩
  obtain ⟨hc1, hf1⟩ := bcell hb1
  have hz1 : w.heap.size < w1.heap.size := by have := hb1.size; simp at this; omega
  go_wp2_with fail
  refine (zzperms_some N P s h m v q c r f a x u g _ hs hh hN1 hN2 hs2 hh2 HP hP1 hP2).mono ?_
  rintro e w2 ⟨k, rfl, hk, hb2⟩
  obtain ⟨hc2, hf2⟩ := bcell hb2
  have hz2 : w.heap.size < w2.heap.size := by have := hb2.size; omega
  go_wp2_with fail
  refine (topology_below (N : Int) s h m v q c r f a x u g _).mono ?_
  rintro e w3 ⟨rfl, hb3⟩
  obtain ⟨hc3, hf3⟩ := bcell hb3
  have hz3 : w.heap.size < w3.heap.size := by have := hb3.size; omega
  go_wp2_with fail
  refine (zzperiod_sym (N : Int) s h m v q c r f a x u g _ hs hh (by omega) (by omega) hs2 hh2).mono ?_
  rw [HP.out]
  rintro e w4 ⟨rfl, hb4⟩
  obtain ⟨hc4, hf4⟩ := bcell hb4
  have hk1 := permAns_pos hk
  have hk2 : ¬ ((k : Int) < 1) := by omega
  have he : Hid ((((k : Int) == 1) == decide (N ≤ P)) = true) := one_eq N P k hP1 hP2 hk
  clear hk
  go_wp2
  go_ret
  exact ⟨ret_bool he.out, ((((((Below.refl _ _).alloc (Nat.le_refl _) _).trans (hb1.mono (by simp))).trans (hb2.mono (by omega))).trans (hb3.mono (by omega))).trans (hb4.mono (by omega)))⟩
end Go.Proofs.Qxb6604194a
