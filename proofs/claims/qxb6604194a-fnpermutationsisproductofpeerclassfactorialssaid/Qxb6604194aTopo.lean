/-
  THE ARGUMENT 'Topo' (a struct of thirteen fields, by value), OPENED.
-/
import Derived.Test.Qxb6604194aRows
import Derived.ProofKit
namespace Go.Proofs.Qxb6604194a
open Go.ChangeShapes Go.WideShapes Go.ChangeAt Go.RowKit

theorem Try.own : ownKnob Try.prog.godebug = none := by kernel_rfl
theorem Try.laidOut : laidOutB Try.prog = true := by kernel_rfl
theorem Try.cells23 : Try.prog.cellsOf 23 = 13 := by kernel_rfl
theorem Try.cells3 : Try.prog.cellsOf 3 = 1 := by kernel_rfl
theorem Try.cells4 : Try.prog.cellsOf 4 = 1 := by kernel_rfl
theorem Try.cells5 : Try.prog.cellsOf 5 = 1 := by kernel_rfl

theorem array13 {α : Type} {cs : Array α} (h : cs.size = 13) : ∃ c0 c1 c2 c3 c4 c5 c6 c7 c8 c9 c10 c11 c12, cs = #[c0, c1, c2, c3, c4, c5, c6, c7, c8, c9, c10, c11, c12] := by
  obtain ⟨l⟩ := cs
  match l, h with
  | [c0, c1, c2, c3, c4, c5, c6, c7, c8, c9, c10, c11, c12], _ => exact ⟨c0, c1, c2, c3, c4, c5, c6, c7, c8, c9, c10, c11, c12, rfl⟩

/-- The bounds of an int. -/
theorem bounds_of_wf {n : Int} (h : (Lit.int .i64 n).wf = true) : -9223372036854775808 ≤ n ∧ n ≤ 9223372036854775807 := by
  simp [Lit.wf, IntKind.min, IntKind.max, IntKind.signed, IntKind.bits] at h
  exact ⟨by omega, by omega⟩

theorem some_of_lt {α : Type} {xs : List α} {i : Nat} (h : i < xs.length) : ∃ y, xs[i]? = some y := ⟨xs[i], List.getElem?_eq_getElem h⟩

theorem open_topo {H : Type} {enc : TypeId × Value → H} {W : World} {r : Reach} {b0 : Nat} {v : Value} {d : DataW H} {p : List MemPlace}
    (hv : Value.okWide Try.prog W r b0 23 v) (h : DataW.Trod enc Try.prog W 0 (fun _ => true) true 23 v d p) :
    ∃ (n s h m v' q c r : Int) (f a x u g : Bool), v = .agg #[.int .i64 n, .int .i64 s, .int .i64 h, .int .u8 m, .int .u8 v', .int .i64 q, .bool f, .int .i64 c, .bool a, .bool x, .int .u8 r, .bool u, .bool g] ∧
      (-9223372036854775808 ≤ n ∧ n ≤ 9223372036854775807) ∧ (-9223372036854775808 ≤ s ∧ s ≤ 9223372036854775807) ∧ (-9223372036854775808 ≤ h ∧ h ≤ 9223372036854775807) := by
  obtain ⟨cs, rfl, hsz⟩ := okWide_struct Try.underlying23 hv
  obtain ⟨c0, c1, c2, c3, c4, c5, c6, c7, c8, c9, c10, c11, c12, rfl⟩ := array13 (hsz.trans Try.cells23)
  obtain ⟨fuel, hf⟩ := h
  obtain ⟨xs, k, _, _, _, hlen, hx⟩ := DataW.trod_struct Try.underlying23 hf
  have hl : xs.length = 13 := hlen
  clear hlen hf
  obtain ⟨y0, e0⟩ := some_of_lt (xs := xs) (i := 0) (by omega)
  obtain ⟨y1, e1⟩ := some_of_lt (xs := xs) (i := 1) (by omega)
  obtain ⟨y2, e2⟩ := some_of_lt (xs := xs) (i := 2) (by omega)
  obtain ⟨y3, e3⟩ := some_of_lt (xs := xs) (i := 3) (by omega)
  obtain ⟨y4, e4⟩ := some_of_lt (xs := xs) (i := 4) (by omega)
  obtain ⟨y5, e5⟩ := some_of_lt (xs := xs) (i := 5) (by omega)
  obtain ⟨y6, e6⟩ := some_of_lt (xs := xs) (i := 6) (by omega)
  obtain ⟨y7, e7⟩ := some_of_lt (xs := xs) (i := 7) (by omega)
  obtain ⟨y8, e8⟩ := some_of_lt (xs := xs) (i := 8) (by omega)
  obtain ⟨y9, e9⟩ := some_of_lt (xs := xs) (i := 9) (by omega)
  obtain ⟨y10, e10⟩ := some_of_lt (xs := xs) (i := 10) (by omega)
  obtain ⟨y11, e11⟩ := some_of_lt (xs := xs) (i := 11) (by omega)
  obtain ⟨y12, e12⟩ := some_of_lt (xs := xs) (i := 12) (by omega)
  obtain ⟨n, g0, _, w0⟩ := DataW.trod_int Try.underlying3 ((hx 0 _ rfl).trans e0)
  obtain ⟨s, g1, _, w1⟩ := DataW.trod_int Try.underlying3 ((hx 1 _ rfl).trans e1)
  obtain ⟨h, g2, _, w2⟩ := DataW.trod_int Try.underlying3 ((hx 2 _ rfl).trans e2)
  obtain ⟨m, g3, _, _⟩ := DataW.trod_int Try.underlying5 ((hx 3 _ rfl).trans e3)
  obtain ⟨v', g4, _, _⟩ := DataW.trod_int Try.underlying5 ((hx 4 _ rfl).trans e4)
  obtain ⟨q, g5, _, _⟩ := DataW.trod_int Try.underlying3 ((hx 5 _ rfl).trans e5)
  obtain ⟨f, g6, _⟩ := DataW.trod_bool Try.underlying4 ((hx 6 _ rfl).trans e6)
  obtain ⟨c, g7, _, _⟩ := DataW.trod_int Try.underlying3 ((hx 7 _ rfl).trans e7)
  obtain ⟨a, g8, _⟩ := DataW.trod_bool Try.underlying4 ((hx 8 _ rfl).trans e8)
  obtain ⟨x, g9, _⟩ := DataW.trod_bool Try.underlying4 ((hx 9 _ rfl).trans e9)
  obtain ⟨r, g10, _, _⟩ := DataW.trod_int Try.underlying5 ((hx 10 _ rfl).trans e10)
  obtain ⟨u, g11, _⟩ := DataW.trod_bool Try.underlying4 ((hx 11 _ rfl).trans e11)
  obtain ⟨g, g12, _⟩ := DataW.trod_bool Try.underlying4 ((hx 12 _ rfl).trans e12)
  simp [Value.cells, Try.cells3, Try.cells4, Try.cells5] at g0 g1 g2 g3 g4 g5 g6 g7 g8 g9 g10 g11 g12
  subst g0 g1 g2 g3 g4 g5 g6 g7 g8 g9 g10 g11 g12
  exact ⟨n, s, h, m, v', q, c, r, f, a, x, u, g, rfl, bounds_of_wf w0, bounds_of_wf w1, bounds_of_wf w2⟩
end Go.Proofs.Qxb6604194a
