import Derived.Test.Qxb6604250aRows
import Derived.WalkKit
import Derived.WalkSpells
import Derived.WalkLawsBesides
import Derived.RegionTactic
import Derived.ChangeAlike
import Derived.Deep.QuietTactic
import Derived.BigQuiet
import Derived.LoopTactic
namespace Go.Proofs.Qxb6604250a
open Go.RowKit

/-- A slice of strings that came in: nil; or no element; or a row of cells. -/
def IsStrs (w : World) (a : Option Addr) (len : Nat) (S : Nat → ByteArray) : Prop :=
  len = 0 ∨ ∃ b off, a = some ⟨b, off, none⟩ ∧ b < w.heap.size ∧ ∀ i, i < len → w.cell? ⟨b, off + i, none⟩ = some (.string (S i))

/-- Some bool comes back. -/
def AnyBool (e : Ending) : Prop := ∃ β, e = .returned (.bool β)
theorem anyBool (β : Bool) : AnyBool (.returned (.bool β)) := ⟨β, rfl⟩
/-- True comes back, or false, and then the length is small. -/
def BigOr (len : Nat) (e : Ending) : Prop := e = .returned (.bool true) ∨ (e = .returned (.bool false) ∧ len ≤ 65536)
theorem bigOr {len : Nat} (h : len ≤ 65536) (β : Bool) : BigOr len (.returned (.bool β)) := by
  cases β
  · exact .inr ⟨rfl, h⟩
  · exact .inl rfl
theorem bigOr_true (len : Nat) : BigOr len (.returned (.bool true)) := .inl rfl

set_option maxHeartbeats 400000 in
theorem bytes_any (x y : Nat) (a : Option Addr) (len cap : Nat) (S : Nat → ByteArray) (w : World) (hl : (len : Int) ≤ 9223372036854775807) (hS : IsStrs w a len S) :
    Calls Try.prog 15 #[.float .f64 x, .float .f64 y, .slice a len cap] w fun e w' => AnyBool e ∧ w' = w := by
  by_cases hbig : (1048576 : Int) < (len : Int)
  · go_enter Try.func15, Try.ntmps15
    go_wp2
    go_ret
    exact ⟨anyBool _, rfl⟩
  · rcases hS with rfl | ⟨b, off, rfl, hb, hcell⟩
    · go_enter Try.func15, Try.ntmps15
      go_wp2
      go_loop [7, 8] (fun vt vk => vt = .int .i64 0 ∧ vk = .int .i64 0) (fun _ _ => 0)
      case atStart => exact ⟨rfl, rfl⟩
      case round =>
        obtain ⟨rfl, rfl⟩ := hrel
        go_wp2
        go_ret
        exact ⟨anyBool _, rfl⟩
    · go_enter Try.func15, Try.ntmps15
      go_wp2
      go_loop [7, 8] (fun vt vk => ∃ (t : Int) (k : Nat), vt = .int .i64 t ∧ vk = .int .i64 (k : Int) ∧ k ≤ len) (fun _ vk => len - (intOf vk).toNat)
      case atStart => exact ⟨_, 0, rfl, rfl, Nat.zero_le _⟩
      case round =>
        obtain ⟨t, k, rfl, rfl, hk⟩ := hrel
        by_cases hlt : k < len
        · have hc := hcell k hlt
          clear hcell
          go_wp2
          all_goals first
            | (go_ret; exact ⟨anyBool _, rfl⟩)
            | (go_round
               case rel => exact ⟨_, k + 1, rfl, by go_num, by omega⟩
               case measure => simp [intOf]; omega)
        · go_wp2
          go_ret
          exact ⟨anyBool _, rfl⟩

set_option maxHeartbeats 400000 in
theorem toobig_any (a : Option Addr) (len cap : Nat) (S : Nat → ByteArray) (w : World) (hl : (len : Int) ≤ 9223372036854775807) (hS : IsStrs w a len S) :
    Calls Try.prog 16 #[.slice a len cap] w fun e w' => BigOr len e ∧ w' = w := by
  by_cases hbig : (65536 : Int) < (len : Int)
  · go_enter Try.func16, Try.ntmps16
    go_wp2
    go_ret
    exact ⟨bigOr_true _, rfl⟩
  · have hlen : len ≤ 65536 := by omega
    rcases hS with rfl | ⟨b, off, rfl, hb, hcell⟩
    · go_enter Try.func16, Try.ntmps16
      go_wp2
      go_loop [3, 4] (fun vt vk => vt = .int .i64 0 ∧ vk = .int .i64 0) (fun _ _ => 0)
      case atStart => exact ⟨rfl, rfl⟩
      case round =>
        obtain ⟨rfl, rfl⟩ := hrel
        go_wp2
        go_ret
        exact ⟨bigOr hlen _, rfl⟩
    · go_enter Try.func16, Try.ntmps16
      go_wp2
      go_loop [3, 4] (fun vt vk => ∃ (t : Int) (k : Nat), vt = .int .i64 t ∧ vk = .int .i64 (k : Int) ∧ k ≤ len) (fun _ vk => len - (intOf vk).toNat)
      case atStart => exact ⟨_, 0, rfl, rfl, Nat.zero_le _⟩
      case round =>
        obtain ⟨t, k, rfl, rfl, hk⟩ := hrel
        by_cases hlt : k < len
        · have hc := hcell k hlt
          clear hcell
          go_wp2
          all_goals first
            | (go_ret; exact ⟨bigOr hlen _, rfl⟩)
            | (go_round
               case rel => exact ⟨_, k + 1, rfl, by go_num, by omega⟩
               case measure => simp [intOf]; omega)
        · go_wp2
          go_ret
          exact ⟨bigOr hlen _, rfl⟩
end Go.Proofs.Qxb6604250a
