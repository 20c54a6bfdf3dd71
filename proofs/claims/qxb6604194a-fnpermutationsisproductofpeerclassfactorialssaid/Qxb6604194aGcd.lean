import Derived.Test.Qxb6604194aPeriod
import Derived.Test.Qxb6604194aStein
namespace Go.Proofs.Qxb6604194a
open Go.RowKit

theorem both_even (a b : Nat) (ha : (a : Int) ≤ 9223372036854775807) (hb : (b : Int) ≤ 9223372036854775807) (h : a % 2 = 0 ∧ b % 2 = 0) : (bits BinOp.and IntKind.u64 (bits BinOp.or IntKind.u64 (a : Int) (b : Int)) 1 == 0) = true := by
  have e := or_odd a b
  rw [if_pos h] at e
  have hlt : a ||| b < 2 ^ 63 := Nat.or_lt_two_pow (by omega) (by omega)
  rw [bits_or_u64_nat a b (by omega) (by omega), and_one_u64 _ (by omega) (by omega)]
  rw [beq_iff_eq]; omega
theorem not_both (a b : Nat) (ha : (a : Int) ≤ 9223372036854775807) (hb : (b : Int) ≤ 9223372036854775807) (h : ¬ (a % 2 = 0 ∧ b % 2 = 0)) : (bits BinOp.and IntKind.u64 (bits BinOp.or IntKind.u64 (a : Int) (b : Int)) 1 == 0) = false := by
  have e := or_odd a b
  rw [if_neg h] at e
  have hlt : a ||| b < 2 ^ 63 := Nat.or_lt_two_pow (by omega) (by omega)
  rw [bits_or_u64_nat a b (by omega) (by omega), and_one_u64 _ (by omega) (by omega)]
  rw [beq_eq_false_iff_ne]; omega
theorem even_bit (a : Nat) (ha : (a : Int) ≤ 9223372036854775807) (h : a % 2 = 0) : (bits BinOp.and IntKind.u64 (a : Int) 1 == 0) = true := by
  rw [and_one_u64 _ (by omega) (by omega), beq_iff_eq]; omega
theorem odd_bit (a : Nat) (ha : (a : Int) ≤ 9223372036854775807) (h : ¬ a % 2 = 0) : (bits BinOp.and IntKind.u64 (a : Int) 1 == 0) = false := by
  rw [and_one_u64 _ (by omega) (by omega), beq_eq_false_iff_ne]; omega

theorem shl_end (x sh A B : Nat) (hA : 1 ≤ A) (hA2 : (A : Int) ≤ 9223372036854775807) (h : x * 2 ^ sh = Nat.gcd A B) : IntKind.u64.wrap ((x : Int) * 2 ^ sh) = ((Nat.gcd A B : Nat) : Int) := by
  have e : (x : Int) * 2 ^ sh = ((Nat.gcd A B : Nat) : Int) := by rw [← h]; simp
  have hle := gcd_le_left A B hA
  rw [e, IntKind.wrap_u64]
  omega

set_option maxHeartbeats 1000000 in
theorem bingcd (A B : Nat) (hA : 1 ≤ A) (hB : 1 ≤ B) (hA2 : (A : Int) ≤ 9223372036854775807) (hB2 : (B : Int) ≤ 9223372036854775807) (w : World) :
    Calls Try.prog 14 #[.int .u64 (A : Int), .int .u64 (B : Int)] w fun e w' => e = .returned (.int .u64 ((Nat.gcd A B : Nat) : Int)) ∧ w' = w := by
  have hA0 : ((A : Int) == 0) = false := by rw [beq_eq_false_iff_ne]; omega
  have hB0 : ((B : Int) == 0) = false := by rw [beq_eq_false_iff_ne]; omega
  go_enter Try.func14, Try.ntmps14
  go_wp2
  go_loop [0, 1, 5] (fun va vb vs => ∃ a b sh : Nat, va = .int .u64 (a : Int) ∧ vb = .int .u64 (b : Int) ∧ vs = .int .u64 (sh : Int) ∧ 1 ≤ a ∧ 1 ≤ b ∧ (a : Int) ≤ 9223372036854775807 ∧ (b : Int) ≤ 9223372036854775807 ∧ sh ≤ 62 ∧ Hid (a * 2 ^ sh = A ∧ b * 2 ^ sh = B)) (fun va _ _ => (intOf va).toNat)
  case atStart => exact ⟨A, B, 0, rfl, rfl, rfl, hA, hB, hA2, hB2, by omega, ⟨by simp, by simp⟩⟩
  case round =>
    obtain ⟨a, b, sh, rfl, rfl, rfl, ha, hb, ha2, hb2, hsh, HG⟩ := hrel
    by_cases hev : a % 2 = 0 ∧ b % 2 = 0
    · have ht := both_even a b ha2 hb2 hev
      have HE : Hid (a % 2 = 0 ∧ b % 2 = 0) := hev
      clear hev
      go_wp2
      go_round
      case rel =>
        obtain ⟨ea, eb⟩ := HE.out
        obtain ⟨g1, g2⟩ := HG.out
        have ga := half_pow a sh A ea g1
        have gb := half_pow b sh B eb g2
        exact ⟨a / 2, b / 2, sh + 1, by go_num, by go_num, by go_num, by omega, by omega, by omega, by omega, sh_le (a / 2) (sh + 1) A (by omega) ga hA2, ⟨ga, gb⟩⟩
      case measure =>
        simp [intOf]
        omega
    · have ht := not_both a b ha2 hb2 hev
      have HE : Hid (¬ (a % 2 = 0 ∧ b % 2 = 0)) := hev
      clear hev
      go_wp2
      go_loop [0] (fun va => ∃ y : Nat, va = .int .u64 (y : Int) ∧ 1 ≤ y ∧ (y : Int) ≤ 9223372036854775807 ∧ Hid (Nat.gcd y b * 2 ^ sh = Nat.gcd A B ∧ ¬ (y % 2 = 0 ∧ b % 2 = 0))) (fun va => (intOf va).toNat)
      case atStart =>
        obtain ⟨g1, g2⟩ := HG.out
        exact ⟨a, rfl, ha, ha2, gcd_scaled a b sh A B g1 g2, HE.out⟩
      case round =>
        clear ht HG HE
        obtain ⟨y, rfl, hy, hy2, HY⟩ := hrel
        by_cases hyv : y % 2 = 0
        · have ht := even_bit y hy2 hyv
          have HV : Hid (y % 2 = 0) := hyv
          clear hyv
          go_wp2
          go_round
          case rel =>
            have ev := HV.out
            obtain ⟨g1, g2⟩ := HY.out
            have gb : b % 2 = 1 := by omega
            exact ⟨y / 2, by go_num, by omega, by omega, by rw [gcd_half_left y b gb ev]; exact g1, by omega⟩
          case measure =>
            simp [intOf]
            omega
        · have ht := odd_bit y hy2 hyv
          have HV : Hid (¬ y % 2 = 0) := hyv
          clear hyv
          go_wp2
          go_loop [0, 1] (fun va vb => ∃ x z : Nat, va = .int .u64 (x : Int) ∧ vb = .int .u64 (z : Int) ∧ 1 ≤ x ∧ (x : Int) ≤ 9223372036854775807 ∧ (z : Int) ≤ 9223372036854775807 ∧ Hid (Nat.gcd x z * 2 ^ sh = Nat.gcd A B ∧ x % 2 = 1)) (fun va vb => (intOf va).toNat + (intOf vb).toNat)
          case atStart =>
            have ev := HV.out
            exact ⟨y, b, rfl, rfl, hy, hy2, hb2, HY.out.1, by omega⟩
          case round =>
            clear ht HV HY
            obtain ⟨x, z, rfl, rfl, hx, hx2, hz2, HX⟩ := hrel
            by_cases hz0 : z = 0
            · subst hz0
              have HR : Hid (x * 2 ^ sh = Nat.gcd A B) := by have := HX.out.1; rw [Nat.gcd_zero_right] at this; exact this
              go_wp2
              go_ret
              exact ⟨ret_int (shl_end x sh A B hA hA2 HR.out), rfl⟩
            · have hz1 : ((z : Int) != 0) = true := by rw [bne_iff_ne]; omega
              have hz3 : 1 ≤ z := by omega
              clear hz0
              go_wp2
              go_loop [1] (fun vb => ∃ t : Nat, vb = .int .u64 (t : Int) ∧ 1 ≤ t ∧ t ≤ z ∧ Hid (Nat.gcd x t * 2 ^ sh = Nat.gcd A B)) (fun vb => (intOf vb).toNat)
              case atStart => exact ⟨z, rfl, hz3, Nat.le_refl _, HX.out.1⟩
              case round =>
                obtain ⟨t, rfl, ht1, ht2, HT⟩ := hrel
                by_cases htv : t % 2 = 0
                · have htt := even_bit t (by omega) htv
                  have HV : Hid (t % 2 = 0) := htv
                  clear htv
                  go_wp2
                  go_round
                  case rel =>
                    have ev := HV.out
                    obtain ⟨g1, g2⟩ := HX.out
                    exact ⟨t / 2, by go_num, by omega, by omega, by show _ = _; rw [gcd_half_right x t g2 ev]; exact HT.out⟩
                  case measure =>
                    simp [intOf]
                    omega
                · have htt := odd_bit t (by omega) htv
                  have HV : Hid (¬ t % 2 = 0) := htv
                  clear htv
                  by_cases hsw : (t : Int) < (x : Int)
                  · go_wp2
                    go_round
                    case rel =>
                      have ev := HV.out
                      have e : Nat.gcd t (x - t) = Nat.gcd x t := by rw [Nat.gcd_sub_self_right (by omega), Nat.gcd_comm]
                      exact ⟨t, x - t, rfl, by go_num, ht1, by omega, by omega, by rw [e]; exact HT.out, by omega⟩
                    case measure =>
                      simp [intOf]
                      omega
                  · go_wp2
                    go_round
                    case rel =>
                      have ev := HX.out.2
                      have e : Nat.gcd x (t - x) = Nat.gcd x t := by rw [Nat.gcd_sub_self_right (by omega)]
                      exact ⟨x, t - x, rfl, by go_num, hx, by omega, by omega, by rw [e]; exact HT.out, ev⟩
                    case measure =>
                      simp [intOf]
                      omega
end Go.Proofs.Qxb6604194a
