import Derived.Test.Qxb6604254aTod
import Derived.Test.Qxb6604254aModPlain
namespace Go.Proofs.Qxb6604254a
open Go.RowKit

theorem zztod_gram (s : ByteArray) (w : World) (hs2 : (s.size : Int) ≤ 1048576) :
    Calls Try.prog 8 #[.string s] w fun e w' => e = .returned (.bool (todB s.size (bt s))) ∧ ∃ n, w' = w.drewN n := by
  go_enter Try.func8, Try.ntmps8
  go_wp2_with fail
  refine (tod_any s _ hs2).mono ?_
  rintro e w1 ⟨rfl, n, rfl⟩
  go_wp2
  go_ret
  exact ⟨rfl, _, rfl⟩

theorem gbytes_in (s : ByteArray) (w : World) (h : (s.size : Int) ≤ 1048576) :
    Calls Try.prog 7 #[.string s] w fun e w' => e = .returned (.bool true) ∧ w' = w := by
  go_enter Try.func7, Try.ntmps7
  go_wp2
  go_ret
  exact ⟨rfl, rfl⟩

theorem gbytes_out (s : ByteArray) (w : World) (h : 1048576 < (s.size : Int)) :
    Calls Try.prog 7 #[.string s] w fun e w' => e = .returned (.bool false) ∧ w' = w := by
  go_enter Try.func7, Try.ntmps7
  go_wp2
  go_ret
  exact ⟨rfl, rfl⟩

/-- What the walk asks of the model of the grammar. -/
def Models (s : ByteArray) : Prop :=
  ∀ w : World, Calls Try.prog 9 #[.string s] w fun e w' => e = .returned (.bool (modB s.size (bt s))) ∧ w' = w

theorem gram_out (s : ByteArray) (w : World) (h : 1048576 < (s.size : Int)) :
    Calls Try.prog 3 #[.string s] w fun e w' => e = .returned (.bool true) ∧ ∃ n, w' = w.drewN n := by
  go_enter Try.func3, Try.ntmps3
  go_wp2_with fail
  refine (gbytes_out s _ h).mono ?_
  rintro e w1 ⟨rfl, rfl⟩
  go_wp2
  go_ret
  exact ⟨rfl, 0, rfl⟩

theorem gram_in (s : ByteArray) (w : World) (h : (s.size : Int) ≤ 1048576) (hm : Models s) :
    Calls Try.prog 3 #[.string s] w fun e w' => e = .returned (.bool true) ∧ ∃ n, w' = w.drewN n := by
  go_enter Try.func3, Try.ntmps3
  go_wp2_with fail
  refine (gbytes_in s _ h).mono ?_
  rintro e w1 ⟨rfl, rfl⟩
  go_wp2_with fail
  refine (zztod_gram s _ h).mono ?_
  rintro e w1 ⟨rfl, n, rfl⟩
  go_wp2_with fail
  refine (hm _).mono ?_
  rintro e w1 ⟨rfl, rfl⟩
  go_wp2
  go_ret
  exact ⟨ret_boolT (by rw [tod_mod]; simp), n, rfl⟩
end Go.Proofs.Qxb6604254a
