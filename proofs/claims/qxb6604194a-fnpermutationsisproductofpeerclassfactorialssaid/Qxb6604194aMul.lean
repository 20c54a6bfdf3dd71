import Derived.Test.Qxb6604194aPeriod
import Derived.Test.Qxb6604194aWide
namespace Go.Proofs.Qxb6604194a
open Go.RowKit

theorem and_mask (E : Int) (h0 : 0 ≤ E) (h1 : E ≤ 18446744073709551615) : bits BinOp.and IntKind.u64 E 4294967295 = E % 4294967296 := by
  have h := bits_and_u64_nat E.toNat 4294967295 (by omega) (by omega)
  have e := Nat.and_two_pow_sub_one_eq_mod E.toNat 32
  have e2 : (2 : Nat) ^ 32 - 1 = 4294967295 := by decide
  have e3 : (2 : Nat) ^ 32 = 4294967296 := by decide
  rw [e2, e3] at e
  rw [e, Int.toNat_of_nonneg h0] at h
  have h2 : ((E.toNat % 4294967296 : Nat) : Int) = E % 4294967296 := by omega
  exact h.trans h2

/-- The high word as the walk writes it. -/
def hiT (x y : Int) : Int :=
  IntKind.u64.wrap
    (IntKind.u64.wrap
        (IntKind.u64.wrap (x / 4294967296 * (y / 4294967296)) +
          IntKind.u64.wrap
              (IntKind.u64.wrap (x / 4294967296 * bits BinOp.and IntKind.u64 y 4294967295) +
                IntKind.u64.wrap
                    (bits BinOp.and IntKind.u64 x 4294967295 *
                      bits BinOp.and IntKind.u64 y 4294967295) /
                  4294967296) /
            4294967296) +
      IntKind.u64.wrap
          (bits BinOp.and IntKind.u64
              (IntKind.u64.wrap
                (IntKind.u64.wrap (x / 4294967296 * bits BinOp.and IntKind.u64 y 4294967295) +
                  IntKind.u64.wrap
                      (bits BinOp.and IntKind.u64 x 4294967295 *
                        bits BinOp.and IntKind.u64 y 4294967295) /
                    4294967296))
              4294967295 +
            IntKind.u64.wrap (bits BinOp.and IntKind.u64 x 4294967295 * (y / 4294967296))) /
        4294967296)

theorem hiT_eq (x y : Int) (hx0 : 0 ≤ x) (hy0 : 0 ≤ y) (hx : x ≤ 9223372036854775807) (hy : y ≤ 9223372036854775807) : hiT x y = x * y / 18446744073709551616 := by
  rw [← wide x y hx0 hy0 hx hy]
  unfold hiT hiOf
  rw [and_mask x hx0 (by omega), and_mask y hy0 (by omega)]
  simp only [IntKind.wrap_u64]
  rw [and_mask _ (by omega) (by omega)]

set_option maxHeartbeats 1000000 in
theorem mulfull (x y : Int) (hx0 : 0 ≤ x) (hy0 : 0 ≤ y) (hx : x ≤ 9223372036854775807) (hy : y ≤ 9223372036854775807) (w : World) :
    Calls Try.prog 15 #[.int .u64 x, .int .u64 y] w fun e w' => e = .returned (.tuple #[.int .u64 (x * y / 18446744073709551616), .int .u64 (x * y % 18446744073709551616)]) ∧ w' = w := by
  rw [← hiT_eq x y hx0 hy0 hx hy, ← IntKind.wrap_u64 (x * y)]
  go_enter Try.func15, Try.ntmps15
  go_wp2
  go_ret2
  exact ⟨rfl, rfl⟩
end Go.Proofs.Qxb6604194a
