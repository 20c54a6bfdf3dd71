import Derived.Test.Qxb6600930aNamed
import Derived.Laws.Strings
namespace Go.Proofs.Qxb6600930a
open Go.RowKit

/-- What 'named' answers. -/
def namedF (s : ByteArray) : ByteArray := if s.toList.isEmpty = true then nameless else dokimi ++ s

theorem named_any (s : ByteArray) (w : World) (hs : (s.size : Int) ≤ 1048576) :
    Calls Try.prog 6 #[.string s] w fun e w' => e = .returned (.string (namedF s)) ∧ w' = w := by
  by_cases h : s.toList.isEmpty = true
  · have : namedF s = nameless := by unfold namedF; rw [if_pos h]
    rw [this]
    exact named_empty s w h
  · have : namedF s = dokimi ++ s := by unfold namedF; rw [if_neg h]
    rw [this]
    exact named_full s w hs (by simpa using h)

theorem zznamed_any (s : ByteArray) (w : World) (hs : (s.size : Int) ≤ 1048576) :
    Calls Try.prog 5 #[.string s] w fun e w' => e = .returned (.string (namedF s)) ∧ w' = w := by
  go_enter Try.func5, Try.ntmps5
  go_wp2_with fail
  refine (named_any s _ hs).mono ?_
  rintro e w1 ⟨rfl, rfl⟩
  go_wp2
  go_ret
  exact ⟨rfl, rfl⟩

theorem nameless_list : nameless.toList = 97 :: [110, 32, 101, 97, 114, 108, 105, 101, 114, 32, 68, 111, 107, 105, 109, 105, 44, 32, 111, 110, 101, 32, 116, 104, 97, 116, 32, 100, 111, 101, 115, 32, 110, 111, 116, 32, 115, 97, 121, 32, 105, 116, 115, 32, 118, 101, 114, 115, 105, 111, 110] := by
  rw [ByteArray.toList_eq]; rfl

theorem dokimi_list (s : ByteArray) : (dokimi ++ s).toList = 68 :: [111, 107, 105, 109, 105, 32] ++ s.toList := by
  rw [ByteArray.toList_eq, ByteArray.toList_eq, ByteArray.data_append, Array.toList_append]; rfl

/-- The plain law: the names part whatever the versions part. -/
theorem namedF_iff (a b : ByteArray) : (namedF a).toList = (namedF b).toList ↔ a.toList = b.toList := by
  unfold namedF
  by_cases ha : a.toList.isEmpty = true
  · rw [if_pos ha]
    have ea : a.toList = [] := by simpa using ha
    by_cases hb : b.toList.isEmpty = true
    · rw [if_pos hb]
      have eb : b.toList = [] := by simpa using hb
      rw [ea, eb]
      simp
    · rw [if_neg hb, nameless_list, dokimi_list, ea]
      refine ⟨fun h => ?_, fun h => ?_⟩
      · exact absurd (List.cons.inj h).1 (by decide)
      · rw [← h] at hb; exact absurd rfl hb
  · rw [if_neg ha]
    by_cases hb : b.toList.isEmpty = true
    · rw [if_pos hb, nameless_list, dokimi_list]
      have eb : b.toList = [] := by simpa using hb
      rw [eb]
      refine ⟨fun h => ?_, fun h => ?_⟩
      · exact absurd (List.cons.inj h).1 (by decide)
      · rw [h] at ha; exact absurd rfl ha
    · rw [if_neg hb, dokimi_list, dokimi_list]
      exact ⟨fun h => List.append_cancel_left h, fun h => by rw [h]⟩

theorem namedF_eq (a b : ByteArray) : (((namedF a).toList == (namedF b).toList) == (a.toList == b.toList)) = true := by
  have h := namedF_iff a b
  by_cases c : a.toList = b.toList
  · have d := h.2 c
    rw [d, c]
    simp
  · have d : ¬ (namedF a).toList = (namedF b).toList := fun x => c (h.1 x)
    rw [beq_eq_false_iff_ne.2 c, beq_eq_false_iff_ne.2 d]
    rfl

theorem walk_out (a b : ByteArray) (w : World) (ha : a.size ≤ 9223372036854775807) (hb : b.size ≤ 9223372036854775807) (h : 1048576 < (a.size : Int) + (b.size : Int)) :
    Calls Try.prog 3 #[.string a, .string b] w fun e w' => e = .returned (.bool true) ∧ w' = w := by
  go_enter Try.func3, Try.ntmps3
  go_wp2_with fail
  refine (bytes_out a b _ ha hb h).mono ?_
  rintro e w1 ⟨rfl, rfl⟩
  go_wp2
  go_ret
  exact ⟨rfl, rfl⟩

theorem walk_in (a b : ByteArray) (w : World) (h : (a.size : Int) + (b.size : Int) ≤ 1048576) :
    Calls Try.prog 3 #[.string a, .string b] w fun e w' => e = .returned (.bool true) ∧ w' = w := by
  go_enter Try.func3, Try.ntmps3
  go_wp2_with fail
  refine (bytes_in a b _ h).mono ?_
  rintro e w1 ⟨rfl, rfl⟩
  go_wp2_with fail
  refine (zznamed_any a _ (by omega)).mono ?_
  rintro e w1 ⟨rfl, rfl⟩
  go_wp2_with fail
  refine (zznamed_any b _ (by omega)).mono ?_
  rintro e w1 ⟨rfl, rfl⟩
  go_wp2
  go_ret
  exact ⟨ret_boolT (namedF_eq a b), rfl⟩

theorem walk_any (a b : ByteArray) (w : World) (ha : a.size ≤ 9223372036854775807) (hb : b.size ≤ 9223372036854775807) :
    Calls Try.prog 3 #[.string a, .string b] w fun e w' => e = .returned (.bool true) ∧ w' = w := by
  by_cases h : (a.size : Int) + (b.size : Int) ≤ 1048576
  · exact walk_in a b w h
  · exact walk_out a b w ha hb (by omega)
end Go.Proofs.Qxb6600930a
