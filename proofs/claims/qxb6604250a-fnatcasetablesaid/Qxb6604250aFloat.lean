import Derived.Test.Qxb6604250aBytes
import Derived.Test.Qxb6604250aIeee2
namespace Go.Proofs.Qxb6604250a
open Go.RowKit

/-! ### Float operations in a walk: the answer's bits, or a NaN's that the tape names; one draw more there -/
def fres (op : BinOp) (x y : Nat) (w : World) : Nat :=
  match floatBits op .f64 x y with
  | some r => r
  | none => (Question.nanBits .f64 x y).cut (w.tape w.drawn (Question.nanBits .f64 x y))
def fdn (op : BinOp) (x y : Nat) : Nat :=
  match floatBits op .f64 x y with
  | some _ => 0
  | none => 1

theorem cut_nan (x y t : Nat) : NaN ((Question.nanBits .f64 x y).cut t) := by
  show (Ieee.double.read ((t % 2) * 2 ^ 63 + 0x7ff0000000000000 + 1 + (t / 2) % (2 ^ 52 - 1))).isNaN = true
  have h : ((t % 2) * 2 ^ 63 + 0x7ff0000000000000 + 1 + (t / 2) % (2 ^ 52 - 1)) % 9223372036854775808 = 9218868437227405313 + (t / 2) % 4503599627370495 := by omega
  unfold Ieee.Format.read
  simp only [dbinade, dinf, dleast, dsign, h]
  rw [if_neg (by omega), if_neg (by omega), if_neg (by omega)]
  rfl

theorem fres_res (op : BinOp) (x y : Nat) (w : World) : Res (floatBits op .f64 x y) (fres op x y w) := by
  unfold fres
  cases h : floatBits op .f64 x y with
  | some r => exact .inl rfl
  | none => exact .inr ⟨rfl, cut_nan x y _⟩

theorem run_fsub {P : Program} (t : TypeId) (x y : Nat) (w : World) : (binOp .sub t (.float .f64 x) (.float .f64 y)).run P w = .ok (.float .f64 (fres .sub x y w)) (w.drewN (fdn .sub x y)) := by
  unfold fres fdn
  cases h : floatBits .sub .f64 x y with
  | some r => exact run_float_arith w .sub t .f64 x y r h
  | none =>
    have h' : Ieee.double.sub x y = none := h
    simp [binOp, Op.floatArith, FloatKind.format, h', Question.forced]
    rfl
theorem run_fadd {P : Program} (t : TypeId) (x y : Nat) (w : World) : (binOp .add t (.float .f64 x) (.float .f64 y)).run P w = .ok (.float .f64 (fres .add x y w)) (w.drewN (fdn .add x y)) := by
  unfold fres fdn
  cases h : floatBits .add .f64 x y with
  | some r => exact run_float_arith w .add t .f64 x y r h
  | none =>
    have h' : Ieee.double.add x y = none := h
    simp [binOp, Op.floatArith, FloatKind.format, h', Question.forced]
    rfl
theorem run_fmul {P : Program} (t : TypeId) (x y : Nat) (w : World) : (binOp .mul t (.float .f64 x) (.float .f64 y)).run P w = .ok (.float .f64 (fres .mul x y w)) (w.drewN (fdn .mul x y)) := by
  unfold fres fdn
  cases h : floatBits .mul .f64 x y with
  | some r => exact run_float_arith w .mul t .f64 x y r h
  | none =>
    have h' : Ieee.double.mul x y = none := h
    simp [binOp, Op.floatArith, FloatKind.format, h', Question.forced]
    rfl
theorem run_fquo {P : Program} (t : TypeId) (x y : Nat) (w : World) : (binOp .quo t (.float .f64 x) (.float .f64 y)).run P w = .ok (.float .f64 (fres .quo x y w)) (w.drewN (fdn .quo x y)) := by
  unfold fres fdn
  cases h : floatBits .quo .f64 x y with
  | some r => exact run_float_arith w .quo t .f64 x y r h
  | none =>
    have h' : Ieee.double.div x y = none := h
    simp [binOp, Op.floatArith, FloatKind.format, h', Question.forced]
    rfl
theorem run_store_float (P : Program) (w : World) (a : Addr) (m : Mode) (k : FloatKind) (b : Nat) : (store a (.float k b) m).run P w = stored P w a (.float k b) m := run_store P w a _ m rfl
theorem setCell_drewN (w : World) (n : Nat) (a : Addr) (v : Value) : (w.drewN n).setCell a v = (w.setCell a v).drewN n := rfl
theorem alloc_drewN (w : World) (n : Nat) (o : Obj) : (w.drewN n).alloc o = (w.alloc o).drewN n := rfl
attribute [local go_sem] run_fsub run_fadd run_fmul run_fquo

/-! ### The small functions -/
theorem zsame_any (x y : Nat) (h : SameB x y) (w : World) : Calls Try.prog 10 #[.float .f64 x, .float .f64 y] w fun e w' => e = .returned (.bool true) ∧ w' = w := by
  by_cases hn : NaN x
  · have hy : NaN y := by
      rcases h with rfl | ⟨_, h⟩
      · exact hn
      · exact h
    have h1 : (FloatKind.f64.format.order x y == some .eq) = false := by
      show (Ieee.double.order x y == some .eq) = false
      rw [order_nan_left hn]; rfl
    have h2 : (FloatKind.f64.format.order x x != some .eq) = true := by
      show (Ieee.double.order x x != some .eq) = true
      rw [order_nan_left hn]; rfl
    have h3 : (FloatKind.f64.format.order y y != some .eq) = true := by
      show (Ieee.double.order y y != some .eq) = true
      rw [order_nan_left hy]; rfl
    clear hn hy h
    go_enter Try.func10, Try.ntmps10
    go_wp2
    go_ret
    exact ⟨rfl, rfl⟩
  · obtain rfl : x = y := by
      rcases h with h | ⟨h, _⟩
      · exact h
      · exact absurd h hn
    have h1 : (FloatKind.f64.format.order x x == some .eq) = true := by
      show (Ieee.double.order x x == some .eq) = true
      rw [order_refl hn]; rfl
    clear hn h
    go_enter Try.func10, Try.ntmps10
    go_wp2
    go_ret
    exact ⟨rfl, rfl⟩

/-- A finite number. -/
def Finite (x : Nat) : Prop := ∃ s m i, Ieee.double.read x = .number s m i
/-- A finite number of modest size. -/
def Small (x : Nat) : Prop := ∃ s m i, Ieee.double.read x = .number s m i ∧ -1074 ≤ i ∧ -((2 ^ 2074 : Nat) : Int) ≤ val s m i ∧ val s m i ≤ ((2 ^ 2074 : Nat) : Int)

def FinAns (x : Nat) (e : Ending) : Prop := ∃ β : Bool, e = .returned (.bool β) ∧ (β = true → Finite x)
def SmallAns (x : Nat) (e : Ending) : Prop := ∃ β : Bool, e = .returned (.bool β) ∧ (β = true → Small x)

theorem finite_of_sub {x z : Nat} (hz : Res (Ieee.double.sub x x) z) (h : Ieee.double.order z 0 = some .eq) : Finite x := by
  rcases read_three x with ⟨s, m, i, e, _⟩ | ⟨s, e⟩ | ⟨s, g, e⟩
  · exact ⟨s, m, i, e⟩
  · exfalso
    have hs : Ieee.double.sub x x = none := by
      unfold Ieee.Format.sub
      rw [e]
      cases s <;> rfl
    rcases hz with h1 | ⟨_, hn⟩
    · rw [hs] at h1; cases h1
    · rw [order_nan_left hn] at h; cases h
  · exfalso
    have hs : Ieee.double.sub x x = none := sub_nan x x (.inl (by unfold NaN; rw [e]; rfl))
    rcases hz with h1 | ⟨_, hn⟩
    · rw [hs] at h1; cases h1
    · rw [order_nan_left hn] at h; cases h

theorem zfinite_any (x : Nat) (w : World) : Calls Try.prog 20 #[.float .f64 x] w fun e w' => FinAns x e ∧ ∃ n, w' = w.drewN n := by
  go_enter Try.func20, Try.ntmps20
  go_wp2
  go_ret
  refine ⟨⟨_, rfl, fun h => ?_⟩, _, rfl⟩
  have h' : Ieee.double.order (fres .sub x x w) 0 = some .eq := by simpa [FloatKind.format] using h
  exact finite_of_sub (fres_res .sub x x w) h'

theorem small_of (x : Nat) (h1 : (FloatKind.f64.format.order x 18334154083025289216 == some .gt || FloatKind.f64.format.order x 18334154083025289216 == some .eq) = true)
    (h2 : (FloatKind.f64.format.order x 9110782046170513408 == some .lt || FloatKind.f64.format.order x 9110782046170513408 == some .eq) = true) : Small x := by
  have g1 : Ieee.double.order x 18334154083025289216 = some .gt ∨ Ieee.double.order x 18334154083025289216 = some .eq := by simpa [FloatKind.format] using h1
  have g2 : Ieee.double.order x 9110782046170513408 = some .lt ∨ Ieee.double.order x 9110782046170513408 = some .eq := by simpa [FloatKind.format] using h2
  have e1 : Ieee.double.read 18334154083025289216 = .number true 4503599627370496 948 := by decide +kernel
  have e2 : Ieee.double.read 9110782046170513408 = .number false 4503599627370496 948 := by decide +kernel
  have v1 : val true 4503599627370496 948 = -((2 ^ 2074 : Nat) : Int) := by decide +kernel
  have v2 : val false 4503599627370496 948 = ((2 ^ 2074 : Nat) : Int) := by decide +kernel
  unfold Ieee.Format.order at g1 g2
  rw [e1] at g1
  rw [e2] at g2
  rcases read_three x with ⟨s, m, i, e, hi, _⟩ | ⟨s, e⟩ | ⟨s, g, e⟩
  · refine ⟨s, m, i, e, hi, ?_, ?_⟩
    · rw [e, order_num _ _ _ _ _ _ hi (by omega), v1] at g1
      rcases g1 with g | g
      · have := Int.compare_eq_gt.1 (Option.some.inj g); omega
      · have := Int.compare_eq_eq.1 (Option.some.inj g); omega
    · rw [e, order_num _ _ _ _ _ _ hi (by omega), v2] at g2
      rcases g2 with g | g
      · have := Int.compare_eq_lt.1 (Option.some.inj g); omega
      · have := Int.compare_eq_eq.1 (Option.some.inj g); omega
  · exfalso
    rw [e] at g1 g2
    cases s
    · rcases g2 with g | g <;> cases g
    · rcases g1 with g | g <;> cases g
  · exfalso
    rw [e] at g1
    rcases g1 with g | g <;> cases g

theorem zsmall_any (x : Nat) (w : World) : Calls Try.prog 11 #[.float .f64 x] w fun e w' => SmallAns x e ∧ w' = w := by
  cases h1 : (FloatKind.f64.format.order x 18334154083025289216 == some .gt || FloatKind.f64.format.order x 18334154083025289216 == some .eq) with
  | false =>
    go_enter Try.func11, Try.ntmps11
    go_wp2
    go_ret
    exact ⟨⟨_, rfl, fun h => by cases h⟩, rfl⟩
  | true =>
    have H1 : Hid ((FloatKind.f64.format.order x 18334154083025289216 == some .gt || FloatKind.f64.format.order x 18334154083025289216 == some .eq) = true) := h1
    go_enter Try.func11, Try.ntmps11
    go_wp2
    go_ret
    exact ⟨⟨_, rfl, fun h => small_of x H1.out h⟩, rfl⟩

theorem zkept_any (x y g : Nat) (hk : Ieee.double.order x y = some .eq → Finite x → Ieee.double.order g x = some .eq) (w : World) :
    Calls Try.prog 12 #[.float .f64 x, .float .f64 y, .float .f64 g] w fun e w' => e = .returned (.bool true) ∧ ∃ n, w' = w.drewN n := by
  have HK : Hid (Ieee.double.order x y = some .eq → Finite x → Ieee.double.order g x = some .eq) := hk
  clear hk
  cases h1 : (FloatKind.f64.format.order x y == some .eq) with
  | false =>
    go_enter Try.func12, Try.ntmps12
    go_wp2_with (go_at_call 20; fail)
    go_ret
    exact ⟨rfl, 0, rfl⟩
  | true =>
    have HO : Hid (Ieee.double.order x y = some .eq) := by
      show _ = _
      simpa [FloatKind.format] using h1
    go_enter Try.func12, Try.ntmps12
    go_wp2_with fail
    refine (zfinite_any x _).mono ?_
    rintro e w' ⟨⟨β, rfl, hβ⟩, n, rfl⟩
    cases β
    · go_wp2
      go_ret
      exact ⟨rfl, _, rfl⟩
    · have h2 : (FloatKind.f64.format.order g x == some .eq) = true := by
        show (Ieee.double.order g x == some .eq) = true
        rw [HK.out HO.out (hβ rfl)]; rfl
      clear hβ
      go_wp2
      go_ret
      exact ⟨rfl, _, rfl⟩
end Go.Proofs.Qxb6604250a
