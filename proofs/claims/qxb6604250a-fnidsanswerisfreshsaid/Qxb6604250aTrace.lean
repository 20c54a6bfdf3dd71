import Derived.Test.Qxb6604250aIds
namespace Go.Proofs.Qxb6604250a
open Go.RowKit

theorem Try.info48 : (Try.prog.info? 48).map (fun i => (i.zero, i.size, i.bytes)) = some (some (.pointer none), 1, 8) := by kernel_rfl

/-- The vehicles made so far. -/
def Made (w wr : World) (n k : Nat) (p : Nat → Nat) (S : Nat → ByteArray) : Prop :=
  Below w.heap.size w wr ∧ w.heap.size < wr.heap.size ∧ wr.rowIs w.heap.size 48 n (fun i => if i < k then .pointer (some ⟨p i, 0, none⟩) else .pointer none) ∧ (∀ i, i < k → w.heap.size < p i ∧ p i < wr.heap.size ∧ wr.cell? ⟨p i, 0, none⟩ = some (.string (S i)))

theorem Made.step {w wr : World} {n k : Nat} {p : Nat → Nat} {S : Nat → ByteArray} (h : Made w wr n k p S) (c1 : Array Value) (t1 t2 : TypeId) (v : Value) :
    Made w (((wr.setCell ⟨w.heap.size, k, none⟩ (.pointer (some ⟨wr.heap.size + 1, 0, none⟩))).alloc (.cells c1 t1)).alloc (.cells #[.string (S k), v] t2)) n (k + 1) (fun i => if i = k then wr.heap.size + 1 else p i) S := by
  obtain ⟨hb, hsz, hrow, hp⟩ := h
  have e0 : (wr.setCell ⟨w.heap.size, k, none⟩ (.pointer (some ⟨wr.heap.size + 1, 0, none⟩))).heap.size = wr.heap.size := by simp [World.setCell]
  have e1 : ((wr.setCell ⟨w.heap.size, k, none⟩ (.pointer (some ⟨wr.heap.size + 1, 0, none⟩))).alloc (.cells c1 t1)).heap.size = wr.heap.size + 1 := by rw [World.size_alloc, e0]
  refine ⟨((hb.setCell (Nat.le_refl _) _).alloc (by rw [e0]; omega) _).alloc (by rw [e1]; omega) _, by rw [World.size_alloc, e1]; omega, ?_, fun i hi => ?_⟩
  · refine (((hrow.set k _).alloc _).alloc _).congr fun i _ => ?_
    by_cases e : i = k
    · subst e; simp
    · have : (i < k + 1) ↔ (i < k) := by omega
      simp [e, this]
  · by_cases e : i = k
    · subst e
      simp only [if_true]
      refine ⟨by omega, by rw [World.size_alloc, e1]; omega, ?_⟩
      rw [World.cell?_alloc_at _ _ _ _ e1.symm]
      rfl
    · obtain ⟨h1, h2, h3⟩ := hp i (by omega)
      simp only [if_neg e]
      refine ⟨h1, by rw [World.size_alloc, e1]; omega, ?_⟩
      rw [World.cell?_alloc_past _ _ _ (by rw [e1]; omega), World.cell?_alloc_past _ _ _ (by rw [e0]; omega), World.cell?_of_block (w := wr) (Below.heap_setCell wr _ _ _ (by show p i ≠ w.heap.size; omega))]
      exact h3

theorem Made.start (w : World) (n : Nat) (S : Nat → ByteArray) : Made w (w.alloc (.cells (madeCells #[.pointer none] n) 48)) n 0 (fun _ => 0) S :=
  ⟨(Below.refl _ _).alloc (Nat.le_refl _) _, by simp, World.rowIs_made w _ n 48, fun i hi => absurd hi (by omega)⟩

theorem Made.done {w wr : World} {n : Nat} {p : Nat → Nat} {S : Nat → ByteArray} (h : Made w wr n n p S) (c : Array Value) (t : TypeId) :
    Below w.heap.size w (wr.alloc (.cells c t)) ∧ Vehs (wr.alloc (.cells c t)) (wr.alloc (.cells c t)).heap.size (some ⟨w.heap.size, 0, none⟩) n p S := by
  obtain ⟨hb, hsz, hrow, hp⟩ := h
  refine ⟨hb.alloc (by omega) _, .inr ⟨w.heap.size, rfl, by rw [World.size_alloc]; omega, fun i hi => ?_⟩⟩
  obtain ⟨h1, h2, h3⟩ := hp i hi
  have hc := hrow.cell hi
  simp only [if_pos hi] at hc
  refine ⟨?_, by rw [World.size_alloc]; omega, ?_⟩
  · rw [World.cell?_alloc_past _ _ _ hsz]; exact hc
  · rw [World.cell?_alloc_past _ _ _ h2]; exact h3

set_option maxHeartbeats 400000 in
theorem trace_some (x y : Nat) (ad : Addr) (n cap : Nat) (S : Nat → ByteArray) (w : World) (hn : n ≤ 65536) (hS : IsStrs w (some ad) n S) :
    Calls Try.prog 17 #[.float .f64 x, .float .f64 y, .slice (some ad) n cap] w fun e w' => ∃ (T V : Nat) (p : Nat → Nat), e = .returned (.tuple #[.pointer (some ⟨T, 0, none⟩), .slice (some ⟨V, 0, none⟩) n n]) ∧
      Below w.heap.size w w' ∧ T < w'.heap.size ∧ w'.cell? ⟨T, 2, none⟩ = some (.slice (some ⟨V, 0, none⟩) n n) ∧ Vehs w' w'.heap.size (some ⟨V, 0, none⟩) n p S := by
  have hmk := run_make_row' (P := Try.prog) 42 48 (.pointer none) 8 Try.underlying42 Try.info48 rfl .i64 .i64 n (by omega) (by omega)
  go_enter Try.func17, Try.ntmps17
  go_wp2
  clear hmk
  go_loopw [9] (fun vk wr => ∃ (k : Nat) (p : Nat → Nat), vk = .int .i64 (k : Int) ∧ k ≤ n ∧ Made w wr n k p S) (fun vk _ => n - (intOf vk).toNat)
  case atStart => exact ⟨0, fun _ => 0, rfl, Nat.zero_le _, Made.start w n S⟩
  case round =>
    obtain ⟨k, p, rfl, hk, hm⟩ := hrel
    have hsz : w.heap.size < wr.heap.size := hm.2.1
    by_cases hlt : k < n
    · rcases hS with h0 | ⟨b, off, ha, hbs, hcell⟩
      · exact absurd hlt (by omega)
      · simp only [Option.some.injEq] at ha
        subst ha
        have g1 : wr.cell? ⟨b, off + k, none⟩ = some (.string (S k)) := (hm.1.cell (p := ⟨b, off + k, none⟩) hbs).trans (hcell k hlt)
        have g4 : wr.cell? ⟨w.heap.size, k, none⟩ = some (.pointer none) := by
          have := hm.2.2.1.cell hlt
          simpa using this
        have g5 : wr.frozen? ⟨w.heap.size, k, none⟩ = false := hm.2.2.1.frozen k
        have HM : Hid (Made w wr n k p S) := hm
        clear hm hcell
        go_wp2
        go_roundw
        case rel => exact ⟨k + 1, _, by go_num, by omega, HM.out.step _ _ _ _⟩
        case measure =>
          simp [intOf]
          omega
    · have e : k = n := by omega
      have HE : Hid (k = n) := e
      have HM : Hid (Made w wr n k p S) := hm
      clear e hm
      go_wp2
      go_ret2
      have hm := HM.out
      rw [HE.out] at hm
      obtain ⟨h1, h2⟩ := hm.done #[.float .f64 x, .float .f64 y, .slice (some ⟨w.heap.size, 0, none⟩) n n, .map none] 52
      exact ⟨wr.heap.size, w.heap.size, p, rfl, h1, by simp, by simp, h2⟩

set_option maxHeartbeats 400000 in
theorem trace_nil (x y : Nat) (cap : Nat) (S : Nat → ByteArray) (w : World) :
    Calls Try.prog 17 #[.float .f64 x, .float .f64 y, .slice none 0 cap] w fun e w' => ∃ (T : Nat) (p : Nat → Nat), e = .returned (.tuple #[.pointer (some ⟨T, 0, none⟩), .slice none 0 0]) ∧
      Below w.heap.size w w' ∧ T < w'.heap.size ∧ w'.cell? ⟨T, 2, none⟩ = some (.slice none 0 0) ∧ Vehs w' w'.heap.size none 0 p S := by
  go_enter Try.func17, Try.ntmps17
  go_wp2
  go_ret2
  exact ⟨w.heap.size, fun _ => 0, rfl, (Below.refl _ _).alloc (Nat.le_refl _) _, by simp, by simp, .inl rfl⟩
end Go.Proofs.Qxb6604250a
