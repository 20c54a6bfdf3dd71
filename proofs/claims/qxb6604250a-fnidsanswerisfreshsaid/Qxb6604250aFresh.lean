import Derived.Test.Qxb6604250aTrace
namespace Go.Proofs.Qxb6604250a
open Go.RowKit

theorem trace_any (x y : Nat) (a : Option Addr) (n cap : Nat) (S : Nat → ByteArray) (w : World) (hn : n ≤ 65536) (hnil : a = none → n = 0) (hS : IsStrs w a n S) :
    Calls Try.prog 17 #[.float .f64 x, .float .f64 y, .slice a n cap] w fun e w' => ∃ (T : Nat) (va : Option Addr) (p : Nat → Nat), e = .returned (.tuple #[.pointer (some ⟨T, 0, none⟩), .slice va n n]) ∧
      Below w.heap.size w w' ∧ T < w'.heap.size ∧ w'.cell? ⟨T, 2, none⟩ = some (.slice va n n) ∧ Vehs w' w'.heap.size va n p S := by
  cases a with
  | none =>
    obtain rfl := hnil rfl
    refine (trace_nil x y cap S w).mono ?_
    rintro e w' ⟨T, p, h1, h2, h3, h4, h5⟩
    exact ⟨T, none, p, h1, h2, h3, h4, h5⟩
  | some ad =>
    refine (trace_some x y ad n cap S w hn hS).mono ?_
    rintro e w' ⟨T, V, p, h1, h2, h3, h4, h5⟩
    exact ⟨T, some ⟨V, 0, none⟩, p, h1, h2, h3, h4, h5⟩

/-- What the first loop writes. -/
def flipS (s : ByteArray) : ByteArray := if s.toList.isEmpty = true then ⟨#[122]⟩ else ⟨#[]⟩

theorem toList_z : (⟨#[122]⟩ : ByteArray).toList = [122] := by decide +kernel
theorem toList_e : (⟨#[]⟩ : ByteArray).toList = [] := by decide +kernel

theorem flipS_ne (s : ByteArray) : ((flipS s).toList == s.toList) = false := by
  unfold flipS
  by_cases h : s.toList.isEmpty = true
  · rw [if_pos h, toList_z]
    have : s.toList = [] := by simpa using h
    rw [this]; rfl
  · rw [if_neg h, toList_e]
    match hs : s.toList with
    | [] => rw [hs] at h; exact absurd rfl h
    | _ :: _ => rfl

/-- A round of the first loop: the row behind the store. -/
theorem flip_row {wr : World} {B n k : Nat} {S : Nat → ByteArray} (v : ByteArray) (hv : v = flipS (S k)) (h : wr.rowIs B 9 n (fun i => if i < k then .string (flipS (S i)) else .string (S i))) :
    (wr.setCell ⟨B, k, none⟩ (.string v)).rowIs B 9 n (fun i => if i < k + 1 then .string (flipS (S i)) else .string (S i)) := by
  refine (h.set k (.string v)).congr fun i _ => ?_
  by_cases e : i = k
  · subst e; simp [hv]
  · have : (i < k + 1) ↔ (i < k) := by omega
    simp [e, this]

set_option maxHeartbeats 1000000 in
theorem fresh (x y : Nat) (a : Option Addr) (n cap : Nat) (S : Nat → ByteArray) (w : World) (hl : (n : Int) ≤ 9223372036854775807) (hnil : a = none → n = 0) (hS : IsStrs w a n S) :
    Calls Try.prog 5 #[.float .f64 x, .float .f64 y, .slice a n cap] w fun e w' => e = .returned (.bool true) ∧ Below w.heap.size w w' := by
  go_enter Try.func5, Try.ntmps5
  go_wp2_with fail
  refine (bytes_any x y a n cap S w hl hS).mono ?_
  rintro e w0 ⟨⟨β, rfl⟩, rfl⟩
  cases β
  · go_wp2
    go_ret
    exact ⟨rfl, Below.refl _ _⟩
  go_wp2_with fail
  refine (toobig_any a n cap S _ hl hS).mono ?_
  rintro e w1 ⟨hbo, rfl⟩
  rcases hbo with rfl | ⟨rfl, hn⟩
  · go_wp2
    go_ret
    exact ⟨rfl, Below.refl _ _⟩
  go_wp2_with fail
  refine (trace_any x y a n cap S _ hn hnil hS).mono ?_
  rintro e w2 ⟨T, va, p, rfl, hb2, hT2, hc2, hv2⟩
  go_wp2_with fail
  refine (ids_any T n va p S _ hn hc2 hT2 hv2).mono ?_
  rintro e w3 ⟨rfl, hb3, hz3, hr3⟩
  have H2 : Hid (Below w1.heap.size w1 w2) := hb2
  clear hb2
  go_wp2
  go_loopw [10] (fun vk wr => ∃ k : Nat, vk = .int .i64 (k : Int) ∧ k ≤ n ∧ Below w2.heap.size w2 wr ∧ wr.heap.size = w2.heap.size + 1 ∧ wr.rowIs w2.heap.size 9 n (fun i => if i < k then .string (flipS (S i)) else .string (S i))) (fun vk _ => n - (intOf vk).toNat)
  case atStart => exact ⟨0, rfl, Nat.zero_le _, hb3, hz3, hr3.congr fun i _ => by simp⟩
  case round =>
    clear hb3 hz3 hr3
    obtain ⟨k, rfl, hk, hb, hsz, hrow⟩ := hrel
    by_cases hlt : k < n
    · have g4 : wr.cell? ⟨w2.heap.size, k, none⟩ = some (.string (S k)) := by
        have := hrow.cell hlt
        simpa using this
      have g5 : wr.frozen? ⟨w2.heap.size, k, none⟩ = false := hrow.frozen k
      have HB : Hid (Below w2.heap.size w2 wr) := hb
      have HR : Hid (wr.rowIs w2.heap.size 9 n (fun i => if i < k then .string (flipS (S i)) else .string (S i))) := hrow
      have HS : Hid (wr.heap.size = w2.heap.size + 1) := hsz
      clear hb hrow hsz hc2
      go_wp2
      · have he : (S k).toList.isEmpty = true := by assumption
        go_roundw
        case rel => exact ⟨k + 1, by go_num, by omega, HB.out.setCell (Nat.le_refl _) _, by have := HS.out; simpa [World.setCell] using this, flip_row _ (by unfold flipS; rw [if_pos he]) HR.out⟩
        case measure =>
          simp [intOf]
          omega
      · have he : (S k).toList.isEmpty = false := by assumption
        go_roundw
        case rel => exact ⟨k + 1, by go_num, by omega, HB.out.setCell (Nat.le_refl _) _, by have := HS.out; simpa [World.setCell] using this, flip_row _ (by unfold flipS; rw [if_neg (by rw [he]; decide)]) HR.out⟩
        case measure =>
          simp [intOf]
          omega
    · have e : k = n := by omega
      have hrow' : wr.rowIs w2.heap.size 9 n (fun i => .string (flipS (S i))) := hrow.congr fun i hi => by simp [e, hi]
      have HE : Hid (k = n) := e
      clear e hrow
      have hc3 : wr.cell? ⟨T, 2, none⟩ = some (.slice va n n) := (hb.cell (p := ⟨T, 2, none⟩) hT2).trans hc2
      have hv3 : Vehs wr wr.heap.size va n p S := by
        rcases hv2.below hb (Nat.le_refl _) with h | ⟨V, h1, h2, h3⟩
        · exact .inl h
        · exact .inr ⟨V, h1, by omega, fun i hi => ⟨(h3 i hi).1, by have := (h3 i hi).2.1; omega, (h3 i hi).2.2⟩⟩
      go_wp2_with fail
      refine (ids_any T n va p S _ hn hc3 (by omega) hv3).mono ?_
      rintro e w4 ⟨rfl, hb4, hz4, hr4⟩
      have hv4 := hv3.below hb4 (Nat.le_refl _)
      have hr1 : w4.rowIs w2.heap.size 9 n (fun i => .string (flipS (S i))) := hrow'.of_block (hb4.block _ (by omega))
      have hbel : Below w1.heap.size w1 w4 := (H2.out.trans (hb.mono H2.out.size)).trans (hb4.mono (by have := H2.out.size; omega))
      have HV : Hid (Vehs w4 wr.heap.size va n p S) := hv4
      have HR1 : Hid (w4.rowIs w2.heap.size 9 n (fun i => .string (flipS (S i)))) := hr1
      have HR4 : Hid (w4.rowIs wr.heap.size 9 n (fun i => .string (S i))) := hr4
      have HBel : Hid (Below w1.heap.size w1 w4) := hbel
      clear hv4 hr1 hr4 hbel hv3 hc3 hrow' hb4 hz4 hb hsz hv2 hc2 hT2 H2 HE hlt hk
      have heq := fun (w : World) (a : Option Addr) (n c n' c' : Nat) => Lib.run_eql_slice_nil (P := Try.prog) w 38 9 a n c n' c' Try.underlying38
      go_wp2
      clear heq
      go_loopw [12] (fun vk wq => ∃ k nd : Nat, vk = .int .i64 (k : Int) ∧ k ≤ n ∧ wq = w4.drewN nd) (fun vk _ => n - (intOf vk).toNat)
      case atStart => exact ⟨0, 0, rfl, Nat.zero_le _, rfl⟩
      case round =>
        obtain ⟨j, nd, rfl, hj, rfl⟩ := hrel
        by_cases hlt : j < n
        · rcases HV.out with h0 | ⟨V, rfl, hV, hi⟩
          · exact absurd hlt (by omega)
          · rcases hS with h0 | ⟨b, off, rfl, hbs, hcell⟩
            · exact absurd hlt (by omega)
            · obtain ⟨q1, q2, q3⟩ := hi j hlt
              have q4 : w4.cell? ⟨w2.heap.size, j, none⟩ = some (.string (flipS (S j))) := HR1.out.cell hlt
              have q5 : w4.cell? ⟨wr.heap.size, j, none⟩ = some (.string (S j)) := HR4.out.cell hlt
              have q6 : w4.cell? ⟨b, off + j, none⟩ = some (.string (S j)) := (HBel.out.cell (p := ⟨b, off + j, none⟩) hbs).trans (hcell j hlt)
              have hfl := flipS_ne (S j)
              clear hi hcell
              go_wp2
              go_quiet (fail)
              go_wp2
              go_roundw
              case rel => exact ⟨j + 1, nd + nq, by go_num, by omega, rfl⟩
              case measure =>
                simp [intOf]
                omega
        · go_wp2
          go_ret
          exact ⟨rfl, below_drewN HBel.out _⟩
end Go.Proofs.Qxb6604250a
