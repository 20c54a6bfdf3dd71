import Derived.Test.Qxb6604254aRows
import Derived.Test.Qxb6604254aTodPlain
import Derived.WalkKit
import Derived.WalkSpells
import Derived.WalkLawsBesides
import Derived.Deep.QuietTactic
import Derived.BigQuiet
import Derived.LoopTactic
namespace Go.Proofs.Qxb6604254a
open Go.RowKit


theorem ret_boolT {a b : Bool} (h : a = b) : Ending.returned (.bool a) = .returned (.bool b) := by rw [h]

set_option maxHeartbeats 1000000 in
theorem two_any (s : ByteArray) (x y most : Int) (w : World) (hs : s.size = 2) (hx : ∀ h : 0 < s.size, ((s[0]'h).toNat : Int) = x) (hy : ∀ h : 1 < s.size, ((s[1]'h).toNat : Int) = y) (hx2 : 0 ≤ x ∧ x ≤ 255) (hy2 : 0 ≤ y ∧ y ≤ 255) :
    Calls Try.prog 25 #[.string s, .int .i64 most] w fun e w' => e = .returned (.bool (tdB x y most)) ∧ ∃ n, w' = w.drewN n := by
  have h0 : (0 : Int) < (s.size : Int) := by omega
  have h1 : (1 : Int) < (s.size : Int) := by omega
  obtain ⟨hx3, hx4⟩ := hx2
  obtain ⟨hy3, hy4⟩ := hy2
  clear hs
  by_cases c1 : 48 ≤ x
  · by_cases c2 : x ≤ 57
    · by_cases c3 : 48 ≤ y
      · by_cases c4 : y ≤ 57
        · have HT : Hid (decide ((x - 48) * 10 + (y - 48) ≤ most) = tdB x y most) := by
            show _ = _
            unfold tdB
            simp [c1, c2, c3, c4]
          go_enter Try.func25, Try.ntmps25
          go_wp2
          go_quiet (fail)
          go_wp2
          go_ret
          exact ⟨ret_boolT HT.out, _, rfl⟩
        · have HT : Hid (false = tdB x y most) := by
            show _ = _
            unfold tdB
            simp [c4]
          have c4' : decide (y ≤ 57) = false := decide_eq_false c4
          clear c4
          go_enter Try.func25, Try.ntmps25
          go_wp2
          go_quiet (fail)
          go_wp2
          go_ret
          exact ⟨ret_boolT HT.out, _, rfl⟩
      · have HT : Hid (false = tdB x y most) := by
          show _ = _
          unfold tdB
          simp [c3]
        have c3' : decide (48 ≤ y) = false := decide_eq_false c3
        clear c3
        go_enter Try.func25, Try.ntmps25
        go_wp2
        go_quiet (fail)
        go_wp2
        go_ret
        exact ⟨ret_boolT HT.out, _, rfl⟩
    · have HT : Hid (false = tdB x y most) := by
        show _ = _
        unfold tdB
        simp [c2]
      have c2' : decide (x ≤ 57) = false := decide_eq_false c2
      clear c2
      go_enter Try.func25, Try.ntmps25
      go_wp2
      go_quiet (fail)
      go_wp2
      go_ret
      exact ⟨ret_boolT HT.out, _, rfl⟩
  · have HT : Hid (false = tdB x y most) := by
      show _ = _
      unfold tdB
      simp [c1]
    have c1' : decide (48 ≤ x) = false := decide_eq_false c1
    clear c1
    go_enter Try.func25, Try.ntmps25
    go_wp2
    go_quiet (fail)
    go_wp2
    go_ret
    exact ⟨ret_boolT HT.out, _, rfl⟩
end Go.Proofs.Qxb6604254a
