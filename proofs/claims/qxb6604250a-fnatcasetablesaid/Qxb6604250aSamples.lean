import Derived.Test.Qxb6604250aAt
import Derived.Deep.OwnRows
import Derived.BigRegion
namespace Go.Proofs.Qxb6604250a
open Go.RowKit
attribute [local go_sem] run_store_float setCell_drewN alloc_drewN

/-- A slice of samples that came in: no element; or a row of cells, four to an element. -/
def IsSamps (w : World) (a : Option Addr) (len : Nat) (G : Nat → Nat → Nat) : Prop :=
  len = 0 ∨ ∃ b off, a = some ⟨b, off, none⟩ ∧ b < w.heap.size ∧ ∀ i, i < len → ∀ j, j < 4 → w.cell? ⟨b, off + i * 4 + j, none⟩ = some (.float .f64 (G i j))

set_option maxHeartbeats 400000 in
theorem bytes6_any (a : Option Addr) (len cap : Nat) (i : Int) (t : Nat) (w : World) (hl : (len : Int) ≤ 9223372036854775807) :
    Calls Try.prog 6 #[.slice a len cap, .int .i64 i, .float .f64 t] w fun e w' => AnyBool e ∧ w' = w := by
  go_enter Try.func6, Try.ntmps6
  go_wp2
  all_goals (go_ret; exact ⟨anyBool _, rfl⟩)

set_option maxHeartbeats 400000 in
theorem incr_any (a : Option Addr) (len cap : Nat) (G : Nat → Nat → Nat) (w : World) (hl : (len : Int) ≤ 32768) (hS : IsSamps w a len G) :
    Calls Try.prog 7 #[.slice a len cap] w fun e w' => AnyBool e ∧ ∃ n, w' = w.drewN n := by
  go_enter Try.func7, Try.ntmps7
  go_wp2
  go_loopw [3] (fun vk wr => ∃ k nd : Nat, vk = .int .i64 (k : Int) ∧ k ≤ len ∧ wr = w.drewN nd) (fun vk _ => len - (intOf vk).toNat)
  case atStart => exact ⟨0, 0, rfl, Nat.zero_le _, rfl⟩
  case round =>
    obtain ⟨k, nd, rfl, hk, rfl⟩ := hrel
    by_cases hlt : k < len
    · rcases hS with h0 | ⟨b, off, rfl, hb, hcell⟩
      · exact absurd hlt (by omega)
      · have c0 : w.cell? ⟨b, off + k * 4, none⟩ = some (.float .f64 (G k 0)) := by simpa using hcell k hlt 0 (by omega)
        by_cases hn1 : (FloatKind.f64.format.order (G k 0) (G k 0) != some .eq) = true
        · clear hcell
          go_wp2
          go_quiet (fail)
          go_wp2
          go_ret
          exact ⟨anyBool _, _, World.drewN_drewN _ _ _⟩
        · have hn1' : (FloatKind.f64.format.order (G k 0) (G k 0) != some .eq) = false := by simpa using hn1
          clear hn1
          by_cases hk1 : k + 1 < len
          · have hk1' : (k : Int) + 1 < (len : Int) := by omega
            have c1 : w.cell? ⟨b, off + (k + 1) * 4, none⟩ = some (.float .f64 (G (k + 1) 0)) := by simpa using hcell (k + 1) hk1 0 (by omega)
            clear hcell
            cases hor : (FloatKind.f64.format.order (G k 0) (G (k + 1) 0) == some .lt) with
            | true =>
              go_wp2
              go_quiet (fail)
              go_wp2
              go_quiet (fail)
              go_wp2
              go_roundw
              case rel => exact ⟨k + 1, _, by go_num, by omega, rfl⟩
              case measure => simp [intOf]; omega
            | false =>
              go_wp2
              go_quiet (fail)
              go_wp2
              go_quiet (fail)
              go_wp2
              go_ret
              exact ⟨anyBool _, _, (congrArg (fun W : World => W.drewN _) (World.drewN_drewN _ _ _)).trans (World.drewN_drewN _ _ _)⟩
          · have hk1' : decide ((k : Int) + 1 < (len : Int)) = false := decide_eq_false (by omega)
            clear hcell
            go_wp2
            go_quiet (fail)
            go_wp2
            go_quiet (fail)
            go_wp2
            go_roundw
            case rel => exact ⟨k + 1, _, by go_num, by omega, rfl⟩
            case measure => simp [intOf]; omega
    · go_wp2
      go_ret
      exact ⟨anyBool _, _, rfl⟩

theorem Try.info28 : (Try.prog.info? 28).map (fun i => (i.zero, i.size, i.bytes)) = some (some (.agg #[.float .f64 0, .float .f64 0, .float .f64 0, .float .f64 0]), 4, 32) := by kernel_rfl

/-- The row behind k copied samples. -/
def rowF (G : Nat → Nat → Nat) (k : Nat) (q : Nat) : Value := if q / 4 < k then .float .f64 (G (q / 4) (q % 4)) else .float .f64 0

theorem rowF_start (w : World) (n : Nat) (G : Nat → Nat → Nat) :
    (w.alloc (.cells (madeCells #[.float .f64 0, .float .f64 0, .float .f64 0, .float .f64 0] (n * 4)) 28)).rowIs w.heap.size 28 (n * 4) (rowF G 0) := by
  have h := World.rowIs_alloc w (madeCells #[.float .f64 0, .float .f64 0, .float .f64 0, .float .f64 0] (n * 4)) 28 (rowF G 0) (fun i hi => by
    rw [size_madeCells] at hi
    simp [madeCells, rowF, hi]
    have h4 : i % 4 = 0 ∨ i % 4 = 1 ∨ i % 4 = 2 ∨ i % 4 = 3 := by omega
    rcases h4 with e | e | e | e <;> rw [e] <;> rfl)
  rw [size_madeCells] at h
  exact h

theorem row_step {wr : World} {B N k : Nat} {G : Nat → Nat → Nat} (h : wr.rowIs B 28 N (rowF G k)) :
    ((((wr.setCell ⟨B, k * 4, none⟩ (.float .f64 (G k 0))).setCell ⟨B, k * 4 + 1, none⟩ (.float .f64 (G k 1))).setCell ⟨B, k * 4 + 2, none⟩ (.float .f64 (G k 2))).setCell ⟨B, k * 4 + 3, none⟩ (.float .f64 (G k 3))).rowIs B 28 N (rowF G (k + 1)) := by
  refine ((((h.set _ _).set _ _).set _ _).set _ _).congr fun q _ => ?_
  unfold rowF
  by_cases e0 : q = k * 4
  · subst e0; simp [show k * 4 / 4 = k from by omega, show k * 4 % 4 = 0 from by omega]
  by_cases e1 : q = k * 4 + 1
  · subst e1; simp [show (k * 4 + 1) / 4 = k from by omega, show (k * 4 + 1) % 4 = 1 from by omega]
  by_cases e2 : q = k * 4 + 2
  · subst e2; simp [show (k * 4 + 2) / 4 = k from by omega, show (k * 4 + 2) % 4 = 2 from by omega]
  by_cases e3 : q = k * 4 + 3
  · subst e3; simp [show (k * 4 + 3) / 4 = k from by omega, show (k * 4 + 3) % 4 = 3 from by omega]
  have : (q / 4 < k + 1) ↔ (q / 4 < k) := by omega
  simp [e0, e1, e2, e3, this]

set_option maxHeartbeats 1000000 in
theorem samples_any (a : Option Addr) (n cap : Nat) (G : Nat → Nat → Nat) (w : World) (hn : n ≤ 32768) (hS : IsSamps w a n G) :
    Calls Try.prog 9 #[.slice a n cap] w fun e w' => e = .returned (.slice (some ⟨w.heap.size, 0, none⟩) n n) ∧ Below w.heap.size w w' ∧ w'.heap.size = w.heap.size + 1 ∧ w'.rowIs w.heap.size 28 (n * 4) (rowF G n) := by
  obtain ⟨i0, hi, hz0, hz1, hz2⟩ := info_parts Try.info28
  have hmk := fun w => run_make (P := Try.prog) w 30 28 i0 _ Try.underlying30 hi hz0 .i64 .i64 (n : Int) (n : Int) (by omega) (by omega) (by rw [hz2]; omega) (by omega)
  go_enter Try.func9, Try.ntmps9
  go_wp2
  clear hmk hi hz0 hz1 hz2
  go_loopw [4] (fun vk wr => ∃ k : Nat, vk = .int .i64 (k : Int) ∧ k ≤ n ∧ Below w.heap.size w wr ∧ wr.heap.size = w.heap.size + 1 ∧ wr.rowIs w.heap.size 28 (n * 4) (rowF G k)) (fun vk _ => n - (intOf vk).toNat)
  case atStart => exact ⟨0, rfl, Nat.zero_le _, (Below.refl _ _).alloc (Nat.le_refl _) _, by simp, rowF_start w n G⟩
  case round =>
    obtain ⟨k, rfl, hk, hb, hsz, hrow⟩ := hrel
    by_cases hlt : k < n
    · rcases hS with h0 | ⟨b, off, rfl, hbs, hcell⟩
      · exact absurd hlt (by omega)
      · have hki : (k : Int) < (n : Int) := by omega
        have c0 : wr.cell? ⟨b, off + k * 4, none⟩ = some (.float .f64 (G k 0)) := (hb.cell (p := ⟨b, off + k * 4, none⟩) hbs).trans (hcell k hlt 0 (by omega))
        have c1 : wr.cell? ⟨b, off + k * 4 + 1, none⟩ = some (.float .f64 (G k 1)) := (hb.cell (p := ⟨b, off + k * 4 + 1, none⟩) hbs).trans (hcell k hlt 1 (by omega))
        have c2 : wr.cell? ⟨b, off + k * 4 + 2, none⟩ = some (.float .f64 (G k 2)) := (hb.cell (p := ⟨b, off + k * 4 + 2, none⟩) hbs).trans (hcell k hlt 2 (by omega))
        have c3 : wr.cell? ⟨b, off + k * 4 + 3, none⟩ = some (.float .f64 (G k 3)) := (hb.cell (p := ⟨b, off + k * 4 + 3, none⟩) hbs).trans (hcell k hlt 3 (by omega))
        have d0 : wr.cell? ⟨w.heap.size, k * 4, none⟩ = some (rowF G k (k * 4)) := hrow.cell (by omega)
        have d1 : wr.cell? ⟨w.heap.size, k * 4 + 1, none⟩ = some (rowF G k (k * 4 + 1)) := hrow.cell (by omega)
        have d2 : wr.cell? ⟨w.heap.size, k * 4 + 2, none⟩ = some (rowF G k (k * 4 + 2)) := hrow.cell (by omega)
        have d3 : wr.cell? ⟨w.heap.size, k * 4 + 3, none⟩ = some (rowF G k (k * 4 + 3)) := hrow.cell (by omega)
        have f0 : wr.frozen? ⟨w.heap.size, k * 4, none⟩ = false := hrow.frozen _
        have f1 : wr.frozen? ⟨w.heap.size, k * 4 + 1, none⟩ = false := hrow.frozen _
        have f2 : wr.frozen? ⟨w.heap.size, k * 4 + 2, none⟩ = false := hrow.frozen _
        have f3 : wr.frozen? ⟨w.heap.size, k * 4 + 3, none⟩ = false := hrow.frozen _
        have HB : Hid (Below w.heap.size w wr) := hb
        have HR : Hid (wr.rowIs w.heap.size 28 (n * 4) (rowF G k)) := hrow
        have HS : Hid (wr.heap.size = w.heap.size + 1) := hsz
        clear hb hrow hsz hcell
        go_wp2
        go_region
        go_wp2
        go_roundw
        case rel =>
          refine ⟨k + 1, by go_num, by omega, ?_, ?_, (row_step HR.out).drew⟩
          · exact ((((HB.out.setCell (Nat.le_refl _) _).setCell (Nat.le_refl _) _).setCell (Nat.le_refl _) _).setCell (Nat.le_refl _) _).drew
          · have := HS.out
            simpa [World.setCell] using this
        case measure => simp [intOf]; omega
    · go_wp2
      go_ret
      have e : k = n := by omega
      subst e
      exact ⟨rfl, hb, hsz, hrow⟩

/-- The copied samples, one by one. -/
theorem samp_of_row {w : World} {B n i : Nat} {G : Nat → Nat → Nat} (h : w.rowIs B 28 (n * 4) (rowF G n)) (hi : i < n) : SampAt w B i (G i 0) (G i 1) (G i 2) (G i 3) := by
  have key : ∀ j, j < 4 → w.cell? ⟨B, i * 4 + j, none⟩ = some (.float .f64 (G i j)) := by
    intro j hj
    rw [h.cell (by omega)]
    unfold rowF
    rw [show (i * 4 + j) / 4 = i from by omega, show (i * 4 + j) % 4 = j from by omega, if_pos hi]
  exact ⟨key 0 (by omega), key 1 (by omega), key 2 (by omega), key 3 (by omega)⟩

/-- The same, the new block under a name; what was there stays. -/
theorem samples_at (B : Nat) (a : Option Addr) (n cap : Nat) (G : Nat → Nat → Nat) (w : World) (hB : B = w.heap.size) (hn : n ≤ 32768) (hS : IsSamps w a n G) :
    Calls Try.prog 9 #[.slice a n cap] w fun e w' => e = .returned (.slice (some ⟨B, 0, none⟩) n n) ∧ Below B w w' ∧ w'.heap.size = B + 1 ∧ (∀ i, i < n → SampAt w' B i (G i 0) (G i 1) (G i 2) (G i 3)) := by
  subst hB
  refine (samples_any a n cap G w hn hS).mono ?_
  rintro e w' ⟨h1, h2, h3, h4⟩
  exact ⟨h1, h2, h3, fun i hi => samp_of_row h4 hi⟩

theorem samps_up {w w' : World} {b off len : Nat} {G : Nat → Nat → Nat} (hb : b < w.heap.size) (hbel : Below w.heap.size w w') (hcell : ∀ i, i < len → ∀ j, j < 4 → w.cell? ⟨b, off + i * 4 + j, none⟩ = some (.float .f64 (G i j))) :
    IsSamps w' (some ⟨b, off, none⟩) len G :=
  .inr ⟨b, off, rfl, Nat.lt_of_lt_of_le hb hbel.size, fun i hi j hj => (hbel.cell (p := ⟨b, off + i * 4 + j, none⟩) hb).trans (hcell i hi j hj)⟩
end Go.Proofs.Qxb6604250a
