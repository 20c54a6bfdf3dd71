import Derived.Test.Qxb6604250aSamples
namespace Go.Proofs.Qxb6604250a
open Go.RowKit
attribute [local go_sem] run_store_float setCell_drewN alloc_drewN

theorem order_eq_symm {x y : Nat} (h : Ieee.double.order x y = some .eq) : Ieee.double.order y x = some .eq := by
  unfold Ieee.Format.order at *
  rcases read_three x with ⟨s, m, i, e, hi, _⟩ | ⟨s, e⟩ | ⟨s, g, e⟩ <;> rcases read_three y with ⟨s', m', i', e', hi', _⟩ | ⟨s', e'⟩ | ⟨s', g', e'⟩ <;> rw [e, e'] at h ⊢
  · rw [order_num _ _ _ _ _ _ hi hi'] at h
    rw [order_num _ _ _ _ _ _ hi' hi, (Int.compare_eq_eq.1 (Option.some.inj h)), Int.compare_eq_eq.2 rfl]
  · cases s' <;> cases h
  · cases h
  · cases s <;> cases h
  · cases s <;> cases s' <;> first | rfl | cases h
  · cases h
  · cases h
  · cases h
  · cases h

set_option maxRecDepth 100000 in
set_option maxHeartbeats 1000000 in
/-- Many samples; or the index is outside. -/
theorem table_out (a : Option Addr) (len cap : Nat) (i : Int) (t : Nat) (G : Nat → Nat → Nat) (w : World) (hl : (len : Int) ≤ 9223372036854775807) (hS : IsSamps w a len G) (ho : (32768 : Int) < (len : Int) ∨ i < 0 ∨ (len : Int) ≤ i) :
    Calls Try.prog 3 #[.slice a len cap, .int .i64 i, .float .f64 t] w fun e w' => e = .returned (.bool true) ∧ Below w.heap.size w w' := by
  go_enter Try.func3, Try.ntmps3
  go_wp2_with fail
  refine (bytes6_any a len cap i t _ hl).mono ?_
  rintro e w0 ⟨⟨β, rfl⟩, rfl⟩
  cases β
  · go_wp2
    go_ret
    exact ⟨rfl, Below.refl _ _⟩
  by_cases h1 : (32768 : Int) < (len : Int)
  · go_wp2
    go_ret
    exact ⟨rfl, Below.refl _ _⟩
  go_wp2_with fail
  refine (incr_any a len cap G _ (by omega) hS).mono ?_
  rintro e w1 ⟨⟨β, rfl⟩, nd, rfl⟩
  cases β
  · go_wp2
    go_ret
    exact ⟨rfl, below_drewN (Below.refl _ _) _⟩
  by_cases h2 : i < 0
  · go_wp2
    go_ret
    exact ⟨rfl, below_drewN (Below.refl _ _) _⟩
  · have h3 : (len : Int) ≤ i := by omega
    clear ho
    go_wp2
    go_ret
    exact ⟨rfl, below_drewN (Below.refl _ _) _⟩

set_option maxRecDepth 100000 in
set_option maxHeartbeats 1000000 in
/-- On a sample's own instant. -/
theorem table_on (b off len cap k t : Nat) (G : Nat → Nat → Nat) (w : World) (hl : (len : Int) ≤ 32768) (hb : b < w.heap.size) (hcell : ∀ i, i < len → ∀ j, j < 4 → w.cell? ⟨b, off + i * 4 + j, none⟩ = some (.float .f64 (G i j)))
    (hk : (k : Int) < (len : Int)) (hon : (FloatKind.f64.format.order t (G k 0) == some .eq) = true) :
    Calls Try.prog 3 #[.slice (some ⟨b, off, none⟩) len cap, .int .i64 (k : Int), .float .f64 t] w fun e w' => e = .returned (.bool true) ∧ Below w.heap.size w w' := by
  have hon' : (FloatKind.f64.format.order (G k 0) t == some .eq) = true := by
    have h : Ieee.double.order t (G k 0) = some .eq := by simpa [FloatKind.format] using hon
    show (Ieee.double.order (G k 0) t == some .eq) = true
    rw [order_eq_symm h]; rfl
  have hS : IsSamps w (some ⟨b, off, none⟩) len G := .inr ⟨b, off, rfl, hb, hcell⟩
  have c0 : w.cell? ⟨b, off + k * 4, none⟩ = some (.float .f64 (G k 0)) := hcell k (by omega) 0 (by omega)
  have c1 : w.cell? ⟨b, off + k * 4 + 1, none⟩ = some (.float .f64 (G k 1)) := hcell k (by omega) 1 (by omega)
  have c2 : w.cell? ⟨b, off + k * 4 + 2, none⟩ = some (.float .f64 (G k 2)) := hcell k (by omega) 2 (by omega)
  have c3 : w.cell? ⟨b, off + k * 4 + 3, none⟩ = some (.float .f64 (G k 3)) := hcell k (by omega) 3 (by omega)
  have HC : Hid (∀ i, i < len → ∀ j, j < 4 → w.cell? ⟨b, off + i * 4 + j, none⟩ = some (.float .f64 (G i j))) := hcell
  clear hcell
  have h1 : ¬ (32768 : Int) < (len : Int) := by omega
  have h2 : ¬ (k : Int) < 0 := by omega
  have h3 : ¬ (len : Int) ≤ (k : Int) := by omega
  go_enter Try.func3, Try.ntmps3
  go_wp2_with fail
  refine (bytes6_any _ len cap _ t _ (by omega)).mono ?_
  rintro e w0 ⟨⟨β, rfl⟩, rfl⟩
  cases β
  · go_wp2
    go_ret
    exact ⟨rfl, Below.refl _ _⟩
  go_wp2_with fail
  refine (incr_any _ len cap G _ hl hS).mono ?_
  rintro e w1 ⟨⟨β, rfl⟩, nd, rfl⟩
  cases β
  · go_wp2
    go_ret
    exact ⟨rfl, below_drewN (Below.refl _ _) _⟩
  clear hS
  go_wp2_with fail
  have hbel1 : Below w0.heap.size w0 ((w0.alloc (.cells #[.float .f64 (G k 0), .float .f64 (G k 1), .float .f64 (G k 2), .float .f64 (G k 3)] 27)).drewN nd) := below_drewN ((Below.refl _ _).alloc (Nat.le_refl _) _) _
  refine (samples_at (w0.heap.size + 1) _ len cap G _ (by simp) (by omega) (samps_up hb hbel1 HC.out)).mono ?_
  rintro e w2 ⟨rfl, hb2, hz2, hr2⟩
  go_wp2_with fail
  refine (zzat_on (w0.heap.size + 1) len len k t _ _ _ _ w2 hk (by omega) (hr2 k (by omega)) hon').mono ?_
  rintro e w3 ⟨rfl, hb3⟩
  have hbel3 : Below w0.heap.size w0 w3 := (hbel1.trans (hb2.mono (by omega))).trans (hb3.mono (by omega))
  have hz3 : w0.heap.size + 2 ≤ w3.heap.size := by have := hb3.size; omega
  have key : ∀ j, w3.cell? ⟨w0.heap.size, j, none⟩ = (w0.alloc (.cells #[.float .f64 (G k 0), .float .f64 (G k 1), .float .f64 (G k 2), .float .f64 (G k 3)] 27)).cell? ⟨w0.heap.size, j, none⟩ := fun j =>
    (hb3.cell (p := ⟨w0.heap.size, j, none⟩) (by show w0.heap.size < w2.heap.size; omega)).trans (hb2.cell (p := ⟨w0.heap.size, j, none⟩) (by show w0.heap.size < w0.heap.size + 1; omega))
  have a0 : w3.cell? ⟨w0.heap.size, 0, none⟩ = some (.float .f64 (G k 0)) := by rw [key]; simp
  have a1 : w3.cell? ⟨w0.heap.size, 1, none⟩ = some (.float .f64 (G k 1)) := by rw [key]; simp
  have a2 : w3.cell? ⟨w0.heap.size, 2, none⟩ = some (.float .f64 (G k 2)) := by rw [key]; simp
  have a3 : w3.cell? ⟨w0.heap.size, 3, none⟩ = some (.float .f64 (G k 3)) := by rw [key]; simp
  have hz4 : w0.heap.size < w3.heap.size := by omega
  clear key hb2 hb3 hr2 hbel1 hz2 hz3 c0 c1 c2 c3 HC
  go_wp2_with (go_at_call 10; refine (zsame_any _ _ (.inl rfl) _).mono ?_; rintro e w' ⟨rfl, rfl⟩)
  go_ret
  exact ⟨rfl, hbel3.alloc (by omega) _⟩
end Go.Proofs.Qxb6604250a
