import Derived.Test.Qxb6604250aFloat
namespace Go.Proofs.Qxb6604250a
open Go.RowKit
attribute [local go_sem] run_fsub run_fadd run_fmul run_fquo run_store_float setCell_drewN alloc_drewN

/-- Sample i at the block B. -/
def SampAt (w : World) (B i : Nat) (g0 g1 g2 g3 : Nat) : Prop :=
  w.cell? ⟨B, i * 4, none⟩ = some (.float .f64 g0) ∧ w.cell? ⟨B, i * 4 + 1, none⟩ = some (.float .f64 g1) ∧ w.cell? ⟨B, i * 4 + 2, none⟩ = some (.float .f64 g2) ∧ w.cell? ⟨B, i * 4 + 3, none⟩ = some (.float .f64 g3)

/-- The factor of the interpolation. -/
def Factor (ta t tb f : Nat) : Prop := ∃ d1 d2, Res (Ieee.double.sub t ta) d1 ∧ Res (Ieee.double.sub tb ta) d2 ∧ Res (Ieee.double.div d1 d2) f
/-- A coordinate, interpolated. -/
def Interp (f xa xb r : Nat) : Prop := ∃ d m, Res (Ieee.double.sub xb xa) d ∧ Res (Ieee.double.mul f d) m ∧ Res (Ieee.double.add xa m) r

theorem factor_of (ta t tb : Nat) (w1 w2 w3 : World) : Factor ta t tb (fres .quo (fres .sub t ta w1) (fres .sub tb ta w2) w3) := ⟨_, _, fres_res .sub t ta w1, fres_res .sub tb ta w2, fres_res .quo _ _ w3⟩
theorem interp_of (f xa xb : Nat) (w1 w2 w3 : World) : Interp f xa xb (fres .add xa (fres .mul f (fres .sub xb xa w1) w2) w3) := ⟨_, _, fres_res .sub xb xa w1, fres_res .mul f _ w2, fres_res .add xa _ w3⟩

set_option maxHeartbeats 400000 in
theorem at_on (B n c i t : Nat) (g0 g1 g2 g3 : Nat) (w : World) (hi : (i : Int) < (n : Int)) (hB : B < w.heap.size) (hs : SampAt w B i g0 g1 g2 g3) (ho : (FloatKind.f64.format.order g0 t == some .eq) = true) :
    Calls Try.prog 19 #[.slice (some ⟨B, 0, none⟩) n c, .int .i64 (i : Int), .float .f64 t] w fun e w' => e = .returned (.agg #[.float .f64 g0, .float .f64 g1, .float .f64 g2, .float .f64 g3]) ∧ Below w.heap.size w w' := by
  obtain ⟨c0, c1, c2, c3⟩ := hs
  go_enter Try.func19, Try.ntmps19
  go_wp2
  refine bodyPost_ret (v := .agg #[.float .f64 g0, .float .f64 g1, .float .f64 g2, .float .f64 g3]) (by simp [results, Try.results19, go_sem]) rfl ⟨rfl, ?_⟩
  exact ((Below.refl _ _).alloc (Nat.le_refl _) _).alloc (by simp) _

set_option maxHeartbeats 1000000 in
theorem at_mid (B n c i t : Nat) (g0 g1 g2 g3 k0 k1 k2 k3 : Nat) (w : World) (hi : (i : Int) + 1 < (n : Int)) (hn : (n : Int) ≤ 9223372036854775807) (hB : B < w.heap.size) (hs : SampAt w B i g0 g1 g2 g3) (hs' : SampAt w B (i + 1) k0 k1 k2 k3) (ho : (FloatKind.f64.format.order g0 t == some .eq) = false) :
    Calls Try.prog 19 #[.slice (some ⟨B, 0, none⟩) n c, .int .i64 (i : Int), .float .f64 t] w fun e w' => ∃ f r1 r2 r3, e = .returned (.agg #[.float .f64 t, .float .f64 r1, .float .f64 r2, .float .f64 r3]) ∧
      Factor g0 t k0 f ∧ Interp f g1 k1 r1 ∧ Interp f g2 k2 r2 ∧ Interp f g3 k3 r3 ∧ Below w.heap.size w w' := by
  obtain ⟨c0, c1, c2, c3⟩ := hs
  obtain ⟨b0, b1, b2, b3⟩ := hs'
  have hi0 : (i : Int) < (n : Int) := by omega
  go_enter Try.func19, Try.ntmps19
  go_wp2
  simp [bodyPost, results, Try.results19, go_sem]
  refine ⟨_, _, _, _, ⟨rfl, rfl, rfl⟩, factor_of _ _ _ _ _ _, interp_of _ _ _ _ _ _, interp_of _ _ _ _ _ _, interp_of _ _ _ _ _ _, ?_⟩
  exact below_drewN ((((Below.refl _ _).alloc (Nat.le_refl _) _).alloc (by simp) _).alloc (by simp; omega) _) _

theorem bcell {W w1 : World} (hb : Below W.heap.size W w1) : (∀ b o, b < W.heap.size → w1.cell? ⟨b, o, none⟩ = W.cell? ⟨b, o, none⟩) ∧ (∀ b o, b < W.heap.size → w1.frozen? ⟨b, o, none⟩ = W.frozen? ⟨b, o, none⟩) :=
  ⟨fun b o h => hb.cell (p := ⟨b, o, none⟩) h, fun b o h => hb.frozen (p := ⟨b, o, none⟩) h⟩

theorem SampAt.alloc {w : World} {B i g0 g1 g2 g3 : Nat} (h : SampAt w B i g0 g1 g2 g3) (hB : B < w.heap.size) (o : Obj) : SampAt (w.alloc o) B i g0 g1 g2 g3 := by
  unfold SampAt at *
  rw [World.cell?_alloc_past _ _ _ hB, World.cell?_alloc_past _ _ _ hB, World.cell?_alloc_past _ _ _ hB, World.cell?_alloc_past _ _ _ hB]
  exact h

set_option maxHeartbeats 400000 in
theorem zzat_on (B n c i t : Nat) (g0 g1 g2 g3 : Nat) (w : World) (hi : (i : Int) < (n : Int)) (hB : B < w.heap.size) (hs : SampAt w B i g0 g1 g2 g3) (ho : (FloatKind.f64.format.order g0 t == some .eq) = true) :
    Calls Try.prog 8 #[.slice (some ⟨B, 0, none⟩) n c, .int .i64 (i : Int), .float .f64 t] w fun e w' => e = .returned (.agg #[.float .f64 g0, .float .f64 g1, .float .f64 g2, .float .f64 g3]) ∧ Below w.heap.size w w' := by
  go_enter Try.func8, Try.ntmps8
  go_wp2_with fail
  refine (at_on B n c i t g0 g1 g2 g3 _ hi (by simp; omega) (hs.alloc hB _) ho).mono ?_
  rintro e w1 ⟨rfl, hb⟩
  obtain ⟨hc1, hf1⟩ := bcell hb
  have hz : w.heap.size < w1.heap.size := by have := hb.size; simp at this; omega
  go_wp2
  simp [bodyPost, results, Try.results8, go_sem, hc1]
  exact (((((((Below.refl _ _).alloc (Nat.le_refl _) _).trans (hb.mono (by simp))).setCell (by simp) _).setCell (by simp) _).setCell (by simp) _).setCell (by simp) _)

set_option maxHeartbeats 400000 in
theorem zzat_mid (B n c i t : Nat) (g0 g1 g2 g3 k0 k1 k2 k3 : Nat) (w : World) (hi : (i : Int) + 1 < (n : Int)) (hn : (n : Int) ≤ 9223372036854775807) (hB : B < w.heap.size) (hs : SampAt w B i g0 g1 g2 g3) (hs' : SampAt w B (i + 1) k0 k1 k2 k3) (ho : (FloatKind.f64.format.order g0 t == some .eq) = false) :
    Calls Try.prog 8 #[.slice (some ⟨B, 0, none⟩) n c, .int .i64 (i : Int), .float .f64 t] w fun e w' => ∃ f r1 r2 r3, e = .returned (.agg #[.float .f64 t, .float .f64 r1, .float .f64 r2, .float .f64 r3]) ∧
      Factor g0 t k0 f ∧ Interp f g1 k1 r1 ∧ Interp f g2 k2 r2 ∧ Interp f g3 k3 r3 ∧ Below w.heap.size w w' := by
  go_enter Try.func8, Try.ntmps8
  go_wp2_with fail
  refine (at_mid B n c i t g0 g1 g2 g3 k0 k1 k2 k3 _ hi hn (by simp; omega) (hs.alloc hB _) (hs'.alloc hB _) ho).mono ?_
  rintro e w1 ⟨f, r1, r2, r3, rfl, hf, h1, h2, h3, hb⟩
  obtain ⟨hc1, hf1⟩ := bcell hb
  have hz : w.heap.size < w1.heap.size := by have := hb.size; simp at this; omega
  go_wp2
  simp [bodyPost, results, Try.results8, go_sem, hc1]
  exact ⟨f, _, _, _, ⟨rfl, rfl, rfl⟩, hf, h1, h2, h3, (((((((Below.refl _ _).alloc (Nat.le_refl _) _).trans (hb.mono (by simp))).setCell (by simp) _).setCell (by simp) _).setCell (by simp) _).setCell (by simp) _)⟩
end Go.Proofs.Qxb6604250a
