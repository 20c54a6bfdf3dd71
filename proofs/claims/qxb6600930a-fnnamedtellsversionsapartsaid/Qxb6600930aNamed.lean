import Derived.Test.Qxb6600930aRows
import Derived.WalkKit
import Derived.WalkSpells
import Derived.WalkLawsBesides
import Derived.Deep.QuietTactic
import Derived.BigQuiet
import Derived.LoopTactic
namespace Go.Proofs.Qxb6600930a
open Go.RowKit

theorem ret_boolT {a b : Bool} (h : a = b) : Ending.returned (.bool a) = .returned (.bool b) := by rw [h]

theorem bytes_in (a b : ByteArray) (w : World) (h : (a.size : Int) + (b.size : Int) ≤ 1048576) :
    Calls Try.prog 4 #[.string a, .string b] w fun e w' => e = .returned (.bool true) ∧ w' = w := by
  go_enter Try.func4, Try.ntmps4
  go_wp2
  go_ret
  exact ⟨rfl, rfl⟩

theorem bytes_out (a b : ByteArray) (w : World) (ha : a.size ≤ 9223372036854775807) (hb : b.size ≤ 9223372036854775807) (h : 1048576 < (a.size : Int) + (b.size : Int)) :
    Calls Try.prog 4 #[.string a, .string b] w fun e w' => e = .returned (.bool false) ∧ w' = w := by
  by_cases c1 : 1048576 < (a.size : Int)
  · go_enter Try.func4, Try.ntmps4
    go_wp2
    go_ret
    exact ⟨rfl, rfl⟩
  by_cases c2 : 1048576 < (b.size : Int)
  · go_enter Try.func4, Try.ntmps4
    go_wp2
    go_ret
    exact ⟨rfl, rfl⟩
  go_enter Try.func4, Try.ntmps4
  go_wp2
  go_ret
  exact ⟨rfl, rfl⟩

/-- The name of an earlier one that does not say its version. -/
def nameless : ByteArray := ⟨#[97, 110, 32, 101, 97, 114, 108, 105, 101, 114, 32, 68, 111, 107, 105, 109, 105, 44, 32, 111, 110, 101, 32, 116, 104, 97, 116, 32, 100, 111, 101, 115, 32, 110, 111, 116, 32, 115, 97, 121, 32, 105, 116, 115, 32, 118, 101, 114, 115, 105, 111, 110]⟩
def dokimi : ByteArray := ⟨#[68, 111, 107, 105, 109, 105, 32]⟩

theorem named_empty (s : ByteArray) (w : World) (h : s.toList.isEmpty = true) :
    Calls Try.prog 6 #[.string s] w fun e w' => e = .returned (.string nameless) ∧ w' = w := by
  go_enter Try.func6, Try.ntmps6
  go_wp2
  go_ret
  exact ⟨rfl, rfl⟩

theorem named_full (s : ByteArray) (w : World) (hs : (s.size : Int) ≤ 1048576) (h : s.toList.isEmpty = false) :
    Calls Try.prog 6 #[.string s] w fun e w' => e = .returned (.string (dokimi ++ s)) ∧ w' = w := by
  go_enter Try.func6, Try.ntmps6
  go_wp2
  go_ret
  exact ⟨rfl, rfl⟩
end Go.Proofs.Qxb6600930a
