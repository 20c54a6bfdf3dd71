import Derived.Test.Qxb6604250aTable
namespace Go.Proofs.Qxb6604250a
open Go.RowKit
attribute [local go_sem] run_store_float setCell_drewN alloc_drewN

set_option maxRecDepth 100000 in
set_option maxHeartbeats 1000000 in
/-- Off the last sample. -/
theorem table_last (b off len cap k t : Nat) (G : Nat → Nat → Nat) (w : World) (hl : (len : Int) ≤ 32768) (hb : b < w.heap.size) (hcell : ∀ i, i < len → ∀ j, j < 4 → w.cell? ⟨b, off + i * 4 + j, none⟩ = some (.float .f64 (G i j)))
    (hk : (k : Int) < (len : Int)) (hon : (FloatKind.f64.format.order t (G k 0) == some .eq) = false) (hlast : (len : Int) ≤ (k : Int) + 1) :
    Calls Try.prog 3 #[.slice (some ⟨b, off, none⟩) len cap, .int .i64 (k : Int), .float .f64 t] w fun e w' => e = .returned (.bool true) ∧ Below w.heap.size w w' := by
  have hS : IsSamps w (some ⟨b, off, none⟩) len G := .inr ⟨b, off, rfl, hb, hcell⟩
  have c0 : w.cell? ⟨b, off + k * 4, none⟩ = some (.float .f64 (G k 0)) := hcell k (by omega) 0 (by omega)
  have c1 : w.cell? ⟨b, off + k * 4 + 1, none⟩ = some (.float .f64 (G k 1)) := hcell k (by omega) 1 (by omega)
  have c2 : w.cell? ⟨b, off + k * 4 + 2, none⟩ = some (.float .f64 (G k 2)) := hcell k (by omega) 2 (by omega)
  have c3 : w.cell? ⟨b, off + k * 4 + 3, none⟩ = some (.float .f64 (G k 3)) := hcell k (by omega) 3 (by omega)
  have HC : Hid (∀ i, i < len → ∀ j, j < 4 → w.cell? ⟨b, off + i * 4 + j, none⟩ = some (.float .f64 (G i j))) := hcell
  clear hcell
  have h1 : ¬ (32768 : Int) < (len : Int) := by omega
  have h2 : ¬ (k : Int) < 0 := by omega
  have h3 : ¬ (len : Int) ≤ (k : Int) := by omega
  go_enter Try.func3, Try.ntmps3
  go_wp2_with fail
  refine (bytes6_any _ len cap _ t _ (by omega)).mono ?_
  rintro e w0 ⟨⟨β, rfl⟩, rfl⟩
  cases β
  · go_wp2
    go_ret
    exact ⟨rfl, Below.refl _ _⟩
  go_wp2_with fail
  refine (incr_any _ len cap G _ hl hS).mono ?_
  rintro e w1 ⟨⟨β, rfl⟩, nd, rfl⟩
  cases β
  · go_wp2
    go_ret
    exact ⟨rfl, below_drewN (Below.refl _ _) _⟩
  clear hS
  clear HC
  go_wp2
  go_ret
  exact ⟨rfl, below_drewN ((Below.refl _ _).alloc (Nat.le_refl _) _) _⟩

set_option maxRecDepth 100000 in
set_option maxHeartbeats 1000000 in
/-- Not behind the sample. -/
theorem table_before (b off len cap k t : Nat) (G : Nat → Nat → Nat) (w : World) (hl : (len : Int) ≤ 32768) (hb : b < w.heap.size) (hcell : ∀ i, i < len → ∀ j, j < 4 → w.cell? ⟨b, off + i * 4 + j, none⟩ = some (.float .f64 (G i j)))
    (hk : (k : Int) + 1 < (len : Int)) (hon : (FloatKind.f64.format.order t (G k 0) == some .eq) = false) (hlt : (FloatKind.f64.format.order (G k 0) t == some .lt) = false) :
    Calls Try.prog 3 #[.slice (some ⟨b, off, none⟩) len cap, .int .i64 (k : Int), .float .f64 t] w fun e w' => e = .returned (.bool true) ∧ Below w.heap.size w w' := by
  have hS : IsSamps w (some ⟨b, off, none⟩) len G := .inr ⟨b, off, rfl, hb, hcell⟩
  have c0 : w.cell? ⟨b, off + k * 4, none⟩ = some (.float .f64 (G k 0)) := hcell k (by omega) 0 (by omega)
  have c1 : w.cell? ⟨b, off + k * 4 + 1, none⟩ = some (.float .f64 (G k 1)) := hcell k (by omega) 1 (by omega)
  have c2 : w.cell? ⟨b, off + k * 4 + 2, none⟩ = some (.float .f64 (G k 2)) := hcell k (by omega) 2 (by omega)
  have c3 : w.cell? ⟨b, off + k * 4 + 3, none⟩ = some (.float .f64 (G k 3)) := hcell k (by omega) 3 (by omega)
  have HC : Hid (∀ i, i < len → ∀ j, j < 4 → w.cell? ⟨b, off + i * 4 + j, none⟩ = some (.float .f64 (G i j))) := hcell
  clear hcell
  have h1 : ¬ (32768 : Int) < (len : Int) := by omega
  have h2 : ¬ (k : Int) < 0 := by omega
  have h3 : ¬ (len : Int) ≤ (k : Int) := by omega
  go_enter Try.func3, Try.ntmps3
  go_wp2_with fail
  refine (bytes6_any _ len cap _ t _ (by omega)).mono ?_
  rintro e w0 ⟨⟨β, rfl⟩, rfl⟩
  cases β
  · go_wp2
    go_ret
    exact ⟨rfl, Below.refl _ _⟩
  go_wp2_with fail
  refine (incr_any _ len cap G _ hl hS).mono ?_
  rintro e w1 ⟨⟨β, rfl⟩, nd, rfl⟩
  cases β
  · go_wp2
    go_ret
    exact ⟨rfl, below_drewN (Below.refl _ _) _⟩
  clear hS
  clear HC
  have h4 : ¬ (len : Int) ≤ (k : Int) + 1 := by omega
  go_wp2
  go_ret
  exact ⟨rfl, below_drewN ((Below.refl _ _).alloc (Nat.le_refl _) _) _⟩

set_option maxRecDepth 100000 in
set_option maxHeartbeats 1000000 in
/-- Not ahead of the next sample. -/
theorem table_behind (b off len cap k t : Nat) (G : Nat → Nat → Nat) (w : World) (hl : (len : Int) ≤ 32768) (hb : b < w.heap.size) (hcell : ∀ i, i < len → ∀ j, j < 4 → w.cell? ⟨b, off + i * 4 + j, none⟩ = some (.float .f64 (G i j)))
    (hk : (k : Int) + 1 < (len : Int)) (hon : (FloatKind.f64.format.order t (G k 0) == some .eq) = false) (hlt : (FloatKind.f64.format.order (G k 0) t == some .lt) = true) (hlt2 : (FloatKind.f64.format.order t (G (k + 1) 0) == some .lt) = false) :
    Calls Try.prog 3 #[.slice (some ⟨b, off, none⟩) len cap, .int .i64 (k : Int), .float .f64 t] w fun e w' => e = .returned (.bool true) ∧ Below w.heap.size w w' := by
  have hS : IsSamps w (some ⟨b, off, none⟩) len G := .inr ⟨b, off, rfl, hb, hcell⟩
  have c0 : w.cell? ⟨b, off + k * 4, none⟩ = some (.float .f64 (G k 0)) := hcell k (by omega) 0 (by omega)
  have c1 : w.cell? ⟨b, off + k * 4 + 1, none⟩ = some (.float .f64 (G k 1)) := hcell k (by omega) 1 (by omega)
  have c2 : w.cell? ⟨b, off + k * 4 + 2, none⟩ = some (.float .f64 (G k 2)) := hcell k (by omega) 2 (by omega)
  have c3 : w.cell? ⟨b, off + k * 4 + 3, none⟩ = some (.float .f64 (G k 3)) := hcell k (by omega) 3 (by omega)
  have b0 : w.cell? ⟨b, off + (k + 1) * 4, none⟩ = some (.float .f64 (G (k + 1) 0)) := hcell (k + 1) (by omega) 0 (by omega)
  have HC : Hid (∀ i, i < len → ∀ j, j < 4 → w.cell? ⟨b, off + i * 4 + j, none⟩ = some (.float .f64 (G i j))) := hcell
  clear hcell
  have h1 : ¬ (32768 : Int) < (len : Int) := by omega
  have h2 : ¬ (k : Int) < 0 := by omega
  have h3 : ¬ (len : Int) ≤ (k : Int) := by omega
  go_enter Try.func3, Try.ntmps3
  go_wp2_with fail
  refine (bytes6_any _ len cap _ t _ (by omega)).mono ?_
  rintro e w0 ⟨⟨β, rfl⟩, rfl⟩
  cases β
  · go_wp2
    go_ret
    exact ⟨rfl, Below.refl _ _⟩
  go_wp2_with fail
  refine (incr_any _ len cap G _ hl hS).mono ?_
  rintro e w1 ⟨⟨β, rfl⟩, nd, rfl⟩
  cases β
  · go_wp2
    go_ret
    exact ⟨rfl, below_drewN (Below.refl _ _) _⟩
  clear hS
  clear HC
  have h4 : ¬ (len : Int) ≤ (k : Int) + 1 := by omega
  go_wp2
  go_ret
  exact ⟨rfl, below_drewN ((Below.refl _ _).alloc (Nat.le_refl _) _) _⟩
end Go.Proofs.Qxb6604250a
