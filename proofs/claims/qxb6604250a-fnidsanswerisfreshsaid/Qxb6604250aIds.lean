import Derived.Test.Qxb6604250aBytes
import Derived.Deep.OwnRows
namespace Go.Proofs.Qxb6604250a
open Go.RowKit

theorem Try.info9 : (Try.prog.info? 9).map (fun i => (i.zero, i.size, i.bytes)) = some (some (.string ByteArray.empty), 1, 16) := by kernel_rfl

/-- The vehicles behind the slice (a, n): each pointer leads to a cell that holds its name. -/
def Vehs (w : World) (B : Nat) (a : Option Addr) (n : Nat) (p : Nat → Nat) (S : Nat → ByteArray) : Prop :=
  n = 0 ∨ ∃ V, a = some ⟨V, 0, none⟩ ∧ V < B ∧ ∀ i, i < n → w.cell? ⟨V, i, none⟩ = some (.pointer (some ⟨p i, 0, none⟩)) ∧ p i < B ∧ w.cell? ⟨p i, 0, none⟩ = some (.string (S i))

theorem Vehs.below {w w' : World} {B C : Nat} {a : Option Addr} {n : Nat} {p : Nat → Nat} {S : Nat → ByteArray} (h : Vehs w B a n p S) (hb : Below C w w') (hBC : B ≤ C) : Vehs w' B a n p S := by
  rcases h with h | ⟨V, ha, hV, hi⟩
  · exact .inl h
  · refine .inr ⟨V, ha, hV, fun i hin => ?_⟩
    obtain ⟨h1, h2, h3⟩ := hi i hin
    exact ⟨(hb.cell (p := ⟨V, i, none⟩) (by show V < C; omega)).trans h1, h2, (hb.cell (p := ⟨p i, 0, none⟩) (by show p i < C; omega)).trans h3⟩

set_option maxHeartbeats 400000 in
theorem ids_any (T n : Nat) (a : Option Addr) (p : Nat → Nat) (S : Nat → ByteArray) (w : World) (hn : n ≤ 65536) (hT : w.cell? ⟨T, 2, none⟩ = some (.slice a n n)) (hTs : T < w.heap.size) (hv : Vehs w w.heap.size a n p S) :
    Calls Try.prog 18 #[.pointer (some ⟨T, 0, none⟩)] w fun e w' => e = .returned (.slice (some ⟨w.heap.size, 0, none⟩) n n) ∧ Below w.heap.size w w' ∧ w'.heap.size = w.heap.size + 1 ∧ w'.rowIs w.heap.size 9 n (fun i => .string (S i)) := by
  have hmk := run_make_row' (P := Try.prog) 38 9 (.string ByteArray.empty) 16 Try.underlying38 Try.info9 rfl .i64 .i64 n (by omega) (by omega)
  go_enter Try.func18, Try.ntmps18
  go_wp2
  clear hmk
  go_loopw [17] (fun vk wr => ∃ k : Nat, vk = .int .i64 (k : Int) ∧ k ≤ n ∧ Below w.heap.size w wr ∧ wr.heap.size = w.heap.size + 1 ∧ wr.rowIs w.heap.size 9 n (fun i => if i < k then .string (S i) else .string ByteArray.empty)) (fun vk _ => n - (intOf vk).toNat)
  case atStart => exact ⟨0, rfl, Nat.zero_le _, (Below.refl _ _).alloc (Nat.le_refl _) _, by simp, World.rowIs_made w _ n 9⟩
  case round =>
    obtain ⟨k, rfl, hk, hb, hsz, hrow⟩ := hrel
    by_cases hlt : k < n
    · rcases hv with h0 | ⟨V, rfl, hV, hi⟩
      · exact absurd hlt (by omega)
      · obtain ⟨h1, h2, h3⟩ := hi k hlt
        have g1 : wr.cell? ⟨V, k, none⟩ = some (.pointer (some ⟨p k, 0, none⟩)) := (hb.cell (p := ⟨V, k, none⟩) hV).trans h1
        have g3 : wr.cell? ⟨p k, 0, none⟩ = some (.string (S k)) := (hb.cell (p := ⟨p k, 0, none⟩) h2).trans h3
        have g4 : wr.cell? ⟨w.heap.size, k, none⟩ = some (.string ByteArray.empty) := by
          have := hrow.cell hlt
          simpa using this
        have g5 : wr.frozen? ⟨w.heap.size, k, none⟩ = false := hrow.frozen k
        have HB : Hid (Below w.heap.size w wr) := hb
        have HR : Hid (wr.rowIs w.heap.size 9 n (fun i => if i < k then .string (S i) else .string ByteArray.empty)) := hrow
        have HS : Hid (wr.heap.size = w.heap.size + 1) := hsz
        clear hb hrow hsz h1 h3 hi hT
        go_wp2
        go_roundw
        case rel =>
          refine ⟨k + 1, by go_num, by omega, HB.out.setCell (Nat.le_refl _) _, ?_, ?_⟩
          · have := HS.out
            simpa [World.setCell] using this
          · refine (HR.out.set k (.string (S k))).congr fun i _ => ?_
            by_cases e : i = k
            · subst e; simp
            · have : (i < k + 1) ↔ (i < k) := by omega
              simp [e, this]
        case measure =>
          simp [intOf]
          omega
    · go_wp2
      go_ret
      have e : k = n := by omega
      subst e
      exact ⟨rfl, hb, hsz, hrow.congr fun i hi => by simp [hi]⟩
end Go.Proofs.Qxb6604250a
