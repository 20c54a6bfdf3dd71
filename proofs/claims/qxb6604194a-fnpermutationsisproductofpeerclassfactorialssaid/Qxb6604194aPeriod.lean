import Derived.Test.Qxb6604194aRows
import Derived.Test.Qxb6604194aPlain
import Derived.WalkKit
import Derived.WalkSpells
import Derived.WalkLawsBesides
import Derived.RegionTactic
import Derived.ChangeAlike
import Derived.Deep.QuietTactic
import Derived.BigQuiet
import Derived.LoopTactic
namespace Go.Proofs.Qxb6604194a
open Go.RowKit

theorem ret_int {k : IntKind} {a b : Int} (h : a = b) : Ending.returned (.int k a) = .returned (.int k b) := by rw [h]

set_option maxHeartbeats 400000 in
theorem period_not (n s h m v q c r : Int) (f a x u g : Bool) (k : Int) (hk : (k != 1) = true) (w : World) :
    Calls Try.prog 12 #[.agg #[.int .i64 n, .int .i64 s, .int .i64 h, .int .u8 m, .int .u8 v, .int .i64 q, .bool f, .int .i64 c, .bool a, .bool x, .int .u8 r, .bool u, .bool g], .int .u8 k] w fun e w' => e = .returned (.int .i64 n) ∧ Below w.heap.size w w' := by
  go_enter Try.func12, Try.ntmps12
  go_wp2
  go_ret
  exact ⟨rfl, (Below.refl _ _).alloc (Nat.le_refl _) _⟩

theorem gcd_round (h s : Int) (a b : Nat) (H : Nat.gcd a b = Nat.gcd h.toNat s.toNat) : Nat.gcd b (a % b) = Nat.gcd h.toNat s.toNat := by
  rw [← H, Nat.gcd_comm a b, Nat.gcd_comm b (a % b), ← Nat.gcd_rec]

set_option maxHeartbeats 400000 in
theorem period_sym (n s h m v q c r : Int) (f a x u g : Bool) (w : World) (hs : 1 ≤ s) (hh : 1 ≤ h) (hn1 : -9223372036854775808 ≤ n) (hn2 : n ≤ 9223372036854775807) (hs2 : s ≤ 9223372036854775807) (hh2 : h ≤ 9223372036854775807) :
    Calls Try.prog 12 #[.agg #[.int .i64 n, .int .i64 s, .int .i64 h, .int .u8 m, .int .u8 v, .int .i64 q, .bool f, .int .i64 c, .bool a, .bool x, .int .u8 r, .bool u, .bool g], .int .u8 1] w fun e w' => e = .returned (.int .i64 (perF n h s)) ∧ Below w.heap.size w w' := by
  go_enter Try.func12, Try.ntmps12
  go_wp2
  go_quiet (fail)
  go_wp2
  go_loopw [6, 7] (fun va vb wr => ∃ (y z nd : Nat), va = .int .i64 (y : Int) ∧ vb = .int .i64 (z : Int) ∧ Hid (Nat.gcd y z = Nat.gcd h.toNat s.toNat) ∧ (y : Int) ≤ 9223372036854775807 ∧ (z : Int) ≤ 9223372036854775807 ∧ 1 ≤ y ∧ wr = (w.alloc (.cells #[.int .i64 n, .int .i64 s, .int .i64 h, .int .u8 m, .int .u8 v, .int .i64 q, .bool f, .int .i64 c, .bool a, .bool x, .int .u8 r, .bool u, .bool g] 29)).drewN nd) (fun _ vb _ => (intOf vb).toNat)
  case atStart => exact ⟨h.toNat, s.toNat, _, by congr 1; omega, by congr 1; omega, rfl, by omega, by omega, by omega, rfl⟩
  case round =>
    obtain ⟨y, z, nd, rfl, rfl, HG, hy, hz, hy1, rfl⟩ := hrel
    by_cases hz0 : z = 0
    · subst hz0
      have hyg : (y : Int) = gcdI h s := by
        have := HG.out
        unfold gcdI
        rw [← this]; simp
      have HY : Hid ((y : Int) = gcdI h s) := hyg
      have hq1 : 1 ≤ h / (y : Int) := by rw [hyg]; exact quot_pos h s hh
      have hq2 : h / (y : Int) ≤ h := by rw [hyg]; exact quot_le h s hh
      clear hyg
      by_cases hc : n.tdiv s < h / (y : Int)
      · go_wp2
        go_ret
        refine ⟨ret_int ?_, below_drewN ((Below.refl _ _).alloc (Nat.le_refl _) _) _⟩
        unfold perF
        rw [← HY.out, if_pos hc]
      · have hp := prod_le n s (h / (y : Int)) hs hq1 hc
        obtain ⟨hp0, hp1, hp2⟩ := hp
        have HC : Hid (¬ n.tdiv s < h / (y : Int)) := hc
        rw [Int.tdiv_eq_ediv_of_nonneg hp0] at hc
        go_wp2
        go_ret
        refine ⟨ret_int ?_, below_drewN ((Below.refl _ _).alloc (Nat.le_refl _) _) _⟩
        unfold perF
        rw [← HY.out, if_neg (by have := HC.out; omega)]
    · have hz1 : (1 : Int) ≤ (z : Int) := by omega
      go_wp2
      go_quiet (fail)
      go_wp2
      go_roundw
      case rel =>
        have hm : y % z < z := Nat.mod_lt _ (by omega)
        exact ⟨z, y % z, nd + nq, rfl, by simp, gcd_round h s y z HG.out, hz, by omega, by omega, World.drewN_drewN _ _ _⟩
      case measure =>
        have hm : y % z < z := Nat.mod_lt _ (by omega)
        simp [intOf]
        omega

set_option maxHeartbeats 400000 in
theorem zztop_any (n s h m v q c r : Int) (f a x u g : Bool) (w : World) :
    Calls Try.prog 13 #[.int .i64 n, .int .i64 s, .int .i64 h, .int .u8 m, .int .u8 v, .int .i64 q, .bool f, .int .i64 c, .bool a, .bool x, .int .u8 r, .bool u, .bool g] w fun e w' => e = .returned (.agg #[.int .i64 n, .int .i64 s, .int .i64 h, .int .u8 m, .int .u8 v, .int .i64 q, .bool f, .int .i64 c, .bool a, .bool x, .int .u8 r, .bool u, .bool g]) ∧ w' = w.alloc (.cells #[.int .i64 n, .int .i64 s, .int .i64 h, .int .u8 m, .int .u8 v, .int .i64 q, .bool f, .int .i64 c, .bool a, .bool x, .int .u8 r, .bool u, .bool g] 29) := by
  go_enter Try.func13, Try.ntmps13
  go_wp2
  simp [bodyPost, results, Try.results13, go_sem]

set_option maxHeartbeats 400000 in
theorem topology_any (n s h m v q c r : Int) (f a x u g : Bool) (w : World) :
    Calls Try.prog 7 #[.agg #[.int .i64 n, .int .i64 s, .int .i64 h, .int .u8 m, .int .u8 v, .int .i64 q, .bool f, .int .i64 c, .bool a, .bool x, .int .u8 r, .bool u, .bool g]] w fun e w' => e = .returned (.agg #[.int .i64 n, .int .i64 s, .int .i64 h, .int .u8 m, .int .u8 v, .int .i64 q, .bool f, .int .i64 c, .bool a, .bool x, .int .u8 r, .bool u, .bool g]) ∧ ∃ c1 c2 c3 : Array Value, w' = ((w.alloc (.cells c1 23)).alloc (.cells c2 29)).alloc (.cells c3 29) := by
  go_enter Try.func7, Try.ntmps7
  go_wp2_with (go_at_call 13; refine (zztop_any n s h m v q c r f a x u g _).mono ?_; rintro e w' ⟨rfl, rfl⟩)
  simp [bodyPost, results, Try.results7, go_sem]
  exact ⟨_, _, _, rfl⟩

/-- Behind 'Below': every old cell and every old mark reads as before. -/
theorem bcell {W w1 : World} (hb : Below W.heap.size W w1) : (∀ b o, b < W.heap.size → w1.cell? ⟨b, o, none⟩ = W.cell? ⟨b, o, none⟩) ∧ (∀ b o, b < W.heap.size → w1.frozen? ⟨b, o, none⟩ = W.frozen? ⟨b, o, none⟩) :=
  ⟨fun b o h => hb.cell (p := ⟨b, o, none⟩) h, fun b o h => hb.frozen (p := ⟨b, o, none⟩) h⟩

theorem topology_below (n s h m v q c r : Int) (f a x u g : Bool) (w : World) :
    Calls Try.prog 7 #[.agg #[.int .i64 n, .int .i64 s, .int .i64 h, .int .u8 m, .int .u8 v, .int .i64 q, .bool f, .int .i64 c, .bool a, .bool x, .int .u8 r, .bool u, .bool g]] w fun e w' => e = .returned (.agg #[.int .i64 n, .int .i64 s, .int .i64 h, .int .u8 m, .int .u8 v, .int .i64 q, .bool f, .int .i64 c, .bool a, .bool x, .int .u8 r, .bool u, .bool g]) ∧ Below w.heap.size w w' := by
  refine (topology_any n s h m v q c r f a x u g w).mono ?_
  rintro e w' ⟨rfl, c1, c2, c3, rfl⟩
  exact ⟨rfl, (((Below.refl _ _).alloc (Nat.le_refl _) _).alloc (by simp) _).alloc (by simp; omega) _⟩

set_option maxHeartbeats 400000 in
theorem zzperiod_not (n s h m v q c r : Int) (f a x u g : Bool) (k : Int) (hk : (k != 1) = true) (w : World) :
    Calls Try.prog 6 #[.agg #[.int .i64 n, .int .i64 s, .int .i64 h, .int .u8 m, .int .u8 v, .int .i64 q, .bool f, .int .i64 c, .bool a, .bool x, .int .u8 r, .bool u, .bool g], .int .u8 k] w fun e w' => e = .returned (.int .i64 n) ∧ Below w.heap.size w w' := by
  go_enter Try.func6, Try.ntmps6
  go_wp2_with (go_at_call 12; refine (period_not n s h m v q c r f a x u g k hk _).mono ?_; rintro e w' ⟨rfl, hb⟩)
  go_ret
  exact ⟨rfl, ((Below.refl _ _).alloc (Nat.le_refl _) _).trans (hb.mono (by simp))⟩

set_option maxHeartbeats 400000 in
theorem zzperiod_sym (n s h m v q c r : Int) (f a x u g : Bool) (w : World) (hs : 1 ≤ s) (hh : 1 ≤ h) (hn1 : -9223372036854775808 ≤ n) (hn2 : n ≤ 9223372036854775807) (hs2 : s ≤ 9223372036854775807) (hh2 : h ≤ 9223372036854775807) :
    Calls Try.prog 6 #[.agg #[.int .i64 n, .int .i64 s, .int .i64 h, .int .u8 m, .int .u8 v, .int .i64 q, .bool f, .int .i64 c, .bool a, .bool x, .int .u8 r, .bool u, .bool g], .int .u8 1] w fun e w' => e = .returned (.int .i64 (perF n h s)) ∧ Below w.heap.size w w' := by
  go_enter Try.func6, Try.ntmps6
  go_wp2_with (go_at_call 12; refine (period_sym n s h m v q c r f a x u g _ hs hh hn1 hn2 hs2 hh2).mono ?_; rintro e w' ⟨rfl, hb⟩)
  go_ret
  exact ⟨rfl, ((Below.refl _ _).alloc (Nat.le_refl _) _).trans (hb.mono (by simp))⟩
end Go.Proofs.Qxb6604194a
