import Derived.Test.Qxb6604194aPeriod
import Derived.Test.Qxb6604194aFact
namespace Go.Proofs.Qxb6604194a
open Go.RowKit

set_option maxHeartbeats 400000 in
/-- 'permutations' with no subscriber: 1. -/
theorem perms_none (n s h m v q c r : Int) (f a x u g : Bool) (w : World) (hs : 1 ≤ s) (hh : 1 ≤ h) (hn1 : -9223372036854775808 ≤ n) (hn2 : n ≤ 0) (hs2 : s ≤ 9223372036854775807) (hh2 : h ≤ 9223372036854775807) :
    Calls Try.prog 16 #[.agg #[.int .i64 n, .int .i64 s, .int .i64 h, .int .u8 m, .int .u8 v, .int .i64 q, .bool f, .int .i64 c, .bool a, .bool x, .int .u8 r, .bool u, .bool g]] w fun e w' => e = .returned (.int .i64 1) ∧ Below w.heap.size w w' := by
  have HP : Hid (perF n h s = n) := perF_of_neg n h s hs hh hn2
  go_enter Try.func16, Try.ntmps16
  go_wp2_with (go_at_call 12; refine (period_sym n s h m v q c r f a x u g _ hs hh hn1 (by omega) hs2 hh2).mono ?_; rw [HP.out]; rintro e w' ⟨rfl, hb⟩)
  go_loop [4, 10] (fun cnt cc => cnt = .int .i64 1 ∧ cc = .int .i64 0) (fun _ _ => 0)
  case atStart => exact ⟨rfl, rfl⟩
  case round =>
    obtain ⟨rfl, rfl⟩ := hrel
    have hlt : ¬ (0 : Int) < n := by omega
    go_wp2
    go_ret
    exact ⟨rfl, ((Below.refl _ _).alloc (Nat.le_refl _) _).trans (hb.mono (by simp))⟩

set_option maxHeartbeats 1000000 in
theorem perms_some (N P : Nat) (s h m v q c r : Int) (f a x u g : Bool) (w : World) (hs : 1 ≤ s) (hh : 1 ≤ h) (hN1 : 1 ≤ N) (hN2 : N ≤ 65536) (hs2 : s ≤ 9223372036854775807) (hh2 : h ≤ 9223372036854775807)
    (HP : Hid (perF (N : Int) h s = (P : Int))) (hP1 : 1 ≤ P) (hP2 : P ≤ N) :
    Calls Try.prog 16 #[.agg #[.int .i64 (N : Int), .int .i64 s, .int .i64 h, .int .u8 m, .int .u8 v, .int .i64 q, .bool f, .int .i64 c, .bool a, .bool x, .int .u8 r, .bool u, .bool g]] w fun e w' => ∃ k : Nat, e = .returned (.int .i64 (k : Int)) ∧ PermAns N P k ∧ Below w.heap.size w w' := by
  go_enter Try.func16, Try.ntmps16
  go_wp2_with (go_at_call 12; refine (period_sym (N : Int) s h m v q c r f a x u g _ hs hh (by omega) (by omega) hs2 hh2).mono ?_; rw [HP.out]; rintro e w' ⟨rfl, hb⟩)
  have hbel : Below w.heap.size w w' := ((Below.refl _ _).alloc (Nat.le_refl _) _).trans (hb.mono (by simp))
  have hcell : w'.cell? ⟨w.heap.size, 0, none⟩ = some (.int .i64 (N : Int)) := by
    rw [(bcell hb).1 _ _ (by simp)]; simp [go_sem]
  clear hb
  go_loop [4, 10] (fun cnt cc => ∃ (i k : Nat), i ≤ P ∧ cc = .int .i64 (i : Int) ∧ cnt = .int .i64 (k : Int) ∧ Hid (k = prodF N P i) ∧ 1 ≤ k ∧ k ≤ 720) (fun _ cc => P - (intOf cc).toNat)
  case atStart => exact ⟨0, 1, by omega, rfl, rfl, rfl, by omega, by omega⟩
  case round =>
    obtain ⟨i, k, hi, rfl, rfl, HK, hk1, hk2⟩ := hrel
    by_cases hlt : i < P
    · have hq0 : (0 : Int) ≤ ((N : Int) - 1 - (i : Int)) / (P : Int) := Int.ediv_nonneg (by omega) (by omega)
      have hq1 : ((N : Int) - 1 - (i : Int)) / (P : Int) ≤ 65535 := by
        have := Int.ediv_le_self (a := (N : Int) - 1 - (i : Int)) (P : Int) (by omega)
        omega
      have HS : Hid ((((N : Int) - 1 - (i : Int)) / (P : Int)) + 1 = ((sz N P i : Nat) : Int)) := by
        show _ = _
        unfold sz
        have : (N : Int) - 1 - (i : Int) = ((N - 1 - i : Nat) : Int) := by omega
        rw [this]
        rfl
      go_wp2
      go_loop [4, 6] (fun cnt kk => ∃ (j t : Nat), 2 ≤ j ∧ j ≤ 65537 ∧ kk = .int .i64 (j : Int) ∧ cnt = .int .i64 (t : Int) ∧ Hid (t = prodF N P i * fac (j - 1)) ∧ j ≤ sz N P i + 1 ∧ t ≤ 720) (fun _ kk => sz N P i + 1 - (intOf kk).toNat)
      case atStart => 
        refine ⟨2, k, by omega, by omega, rfl, rfl, ?_, ?_, hk2⟩
        · have := HK.out
          show _ = _
          rw [this]; simp [fac]
        · have : 1 ≤ sz N P i := Nat.le_add_left 1 _
          omega
      case round =>
        obtain ⟨j, t, hj, hj2, rfl, rfl, HT, hjs, ht⟩ := hrel
        have hm0 : (0 : Int) ≤ (t : Int) * (j : Int) := Int.mul_nonneg (by omega) (by omega)
        have hm1 : (t : Int) * (j : Int) ≤ 47186640 := by
          have : (t : Int) * (j : Int) ≤ 720 * 65537 := Int.mul_le_mul (by omega) (by omega) (by omega) (by omega)
          omega
        by_cases hle : (j : Int) ≤ ((N : Int) - 1 - (i : Int)) / (P : Int) + 1
        · by_cases hbig : (720 : Int) < (t : Int) * (j : Int)
          · go_wp2
            go_ret
            have e1 := HT.out
            have e2 := HS.out
            have hb2 : 720 < t * j := by have : ((t * j : Nat) : Int) = (t : Int) * (j : Int) := by simp
                                         omega
            have he := early N P i j hN1 hlt hj (by omega) (by rw [← e1]; exact ht) (by rw [← e1]; exact hb2)
            rw [← e1] at he
            exact ⟨t * j, by simp, .inr ⟨hb2, he.1, he.2⟩, hbel⟩
          · go_wp2
            go_round
            case rel =>
              have e1 := HT.out
              have e2 := HS.out
              refine ⟨j + 1, t * j, by omega, by omega, by go_num, by go_num, ?_, by omega, ?_⟩
              · show t * j = _
                rw [e1, step_prod N P i j hj]; rfl
              · have : ((t * j : Nat) : Int) = (t : Int) * (j : Int) := by simp
                omega
            case measure =>
              have e2 := HS.out
              simp [intOf]
              omega
        · go_wp2
          go_round
          case rel =>
            have e1 := HT.out
            have e2 := HS.out
            have ej : j - 1 = sz N P i := by omega
            have hpos := prodF_pos N P (i + 1)
            have ep : t = prodF N P (i + 1) := by rw [e1, ej]; rfl
            exact ⟨i + 1, t, by omega, by go_num, rfl, ep, by omega, ht⟩
          case measure =>
            simp [intOf]
            omega
    · go_wp2
      go_ret
      have e : i = P := by omega
      refine ⟨k, rfl, .inl ⟨by have := HK.out; rw [e] at this; exact this, hk2⟩, hbel⟩

set_option maxHeartbeats 400000 in
theorem zzperms_none (n s h m v q c r : Int) (f a x u g : Bool) (w : World) (hs : 1 ≤ s) (hh : 1 ≤ h) (hn1 : -9223372036854775808 ≤ n) (hn2 : n ≤ 0) (hs2 : s ≤ 9223372036854775807) (hh2 : h ≤ 9223372036854775807) :
    Calls Try.prog 9 #[.agg #[.int .i64 n, .int .i64 s, .int .i64 h, .int .u8 m, .int .u8 v, .int .i64 q, .bool f, .int .i64 c, .bool a, .bool x, .int .u8 r, .bool u, .bool g]] w fun e w' => e = .returned (.int .i64 1) ∧ Below w.heap.size w w' := by
  go_enter Try.func9, Try.ntmps9
  go_wp2_with (go_at_call 16; refine (perms_none n s h m v q c r f a x u g _ hs hh hn1 hn2 hs2 hh2).mono ?_; rintro e w' ⟨rfl, hb⟩)
  go_ret
  exact ⟨rfl, ((Below.refl _ _).alloc (Nat.le_refl _) _).trans (hb.mono (by simp))⟩

set_option maxHeartbeats 400000 in
theorem zzperms_some (N P : Nat) (s h m v q c r : Int) (f a x u g : Bool) (w : World) (hs : 1 ≤ s) (hh : 1 ≤ h) (hN1 : 1 ≤ N) (hN2 : N ≤ 65536) (hs2 : s ≤ 9223372036854775807) (hh2 : h ≤ 9223372036854775807)
    (HP : Hid (perF (N : Int) h s = (P : Int))) (hP1 : 1 ≤ P) (hP2 : P ≤ N) :
    Calls Try.prog 9 #[.agg #[.int .i64 (N : Int), .int .i64 s, .int .i64 h, .int .u8 m, .int .u8 v, .int .i64 q, .bool f, .int .i64 c, .bool a, .bool x, .int .u8 r, .bool u, .bool g]] w fun e w' => ∃ k : Nat, e = .returned (.int .i64 (k : Int)) ∧ PermAns N P k ∧ Below w.heap.size w w' := by
  go_enter Try.func9, Try.ntmps9
  go_wp2_with (go_at_call 16; refine (perms_some N P s h m v q c r f a x u g _ hs hh hN1 hN2 hs2 hh2 HP hP1 hP2).mono ?_; rintro e w' ⟨k, rfl, hk, hb⟩)
  go_ret
  exact ⟨k, rfl, hk, ((Below.refl _ _).alloc (Nat.le_refl _) _).trans (hb.mono (by simp))⟩
end Go.Proofs.Qxb6604194a
