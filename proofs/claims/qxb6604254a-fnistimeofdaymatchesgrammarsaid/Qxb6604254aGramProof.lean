import Derived.Test.Qxb6604254aGram
import Derived.Test.Qxb6604254aModPre
import Derived.Test.Qxb6604254aModelA
import Derived.Test.Qxb6604254aModelB
import Derived.Test.Qxb6604254aModelC
import Derived.Test.Qxb6604254aModelD
import Derived.ProofKit
import Derived.OpenShut
import Derived.ShutString
namespace Go.Proofs.Qxb6604254a.Grammar
open Go.ChangeShapes Go.WideShapes Go.ChangeAt Go.RowKit
open Go.ChangeMaps (open_string shut_string)

theorem own : ownKnob Try.prog.godebug = none := by kernel_rfl

theorem grown_drewN {W w : World} (h : Grown W w) (n : Nat) : Grown W (w.drewN n) := h

/-- The model of the grammar, on every text that is not too long. -/
theorem model_any (s : ByteArray) (hs2 : (s.size : Int) ≤ 1048576) : Models s := by
  intro w
  by_cases h0 : (s.size : Int) = 0
  · exact model_empty s w h0
  have hs1 : (1 : Int) ≤ (s.size : Int) := by omega
  cases hz : (bt s (s.size - 1) == 90) with
  | true => exact model_Z s w hs1 hs2 hz
  | false =>
    cases hz1 : (bt s (s.size - 1) == 122) with
    | true => exact model_z s w hs1 hs2 hz hz1
    | false =>
      by_cases h6 : (6 : Int) ≤ (s.size : Int)
      · cases hp : (bt s (s.size - 6) == 43) with
        | true => exact model_P s w hs1 hs2 h6 hz hz1 hp
        | false =>
          cases hq : (bt s (s.size - 6) == 45) with
          | true => exact model_M s w hs1 hs2 h6 hz hz1 hp hq
          | false => exact model_none s w hs1 hs2 h6 hz hz1 hp hq
      · exact model_short s w hs1 hs2 (by omega) hz hz1

theorem walk (a0 : ByteArray) (w : World) :
    Calls Try.prog 3 #[.string a0] w fun e w' => e = .returned (.bool true) ∧ Grown w w' := by
  by_cases h : (a0.size : Int) ≤ 1048576
  · refine (gram_in a0 w h (model_any a0 h)).mono ?_
    rintro e w2 ⟨rfl, n, rfl⟩
    exact ⟨rfl, grown_drewN (Grown.refl _) n⟩
  · refine (gram_out a0 w (by omega)).mono ?_
    rintro e w2 ⟨rfl, n, rfl⟩
    exact ⟨rfl, grown_drewN (Grown.refl _) n⟩

set_option maxRecDepth 100000 in
theorem lifted (os : Os) (started : os.Started) (H : Type) (enc : TypeId × Value → H) :
    ReturnsInHanded {} Try.checked os 3 .any (Rows.fnIsTimeOfDayMatchesGrammarSpec.pre6 enc Try.prog Try.f3 Rows.fnIsTimeOfDayMatchesGrammarRow.domain false) (Rows.fnIsTimeOfDayMatchesGrammarSpec.post enc Try.prog Try.f3 false true false false) := by
  refine returnsInHanded_of_change (C := Try.checked) own started (by kernel_rfl) Try.func3
    (ChangeSpec.witness6 (enc := enc) (C := Try.checked) false ⟨#[], #[.string ByteArray.empty], []⟩ 8 (by kernel_rfl) (by kernel_rfl) (by kernel_rfl) (by kernel_rfl)) ?_
  intro W base args ds gs before hval0 hW hcnd _
  have hval : ∀ (j : Nat) t v, Try.f3.params[j]? = some t → args[j]? = some v → Value.okWide Try.prog W .any base t v := hval0
  have hW' := hW
  obtain ⟨p, q, hA0, hV, rfl, hfz, hnd⟩ := hW
  have hA : DataW.TrodAll enc Try.prog W 0 (fun _ => true) true Try.f3.params.toList args.toList ds p := hA0
  rw [Try.params3] at hA hval
  obtain ⟨v0, vs0, d0, ds0, p0, q0, hargs, rfl, rfl, h0, r0⟩ := trodAll_cons hA
  obtain ⟨rfl, rfl, rfl⟩ := trodAll_nil r0
  obtain rfl : args = #[v0] := by cases args; simp_all
  obtain ⟨rfl, rfl⟩ := trodVars_none hV
  obtain ⟨a0, rfl, rfl, rfl, w0⟩ := open_string Try.underlying9 (hval 0 9 v0 rfl rfl) h0
  clear hA0 hval0
  simp only [List.append_nil] at hW'
  refine (walk a0 W).mono fun e W' ⟨he, hg⟩ => ?_
  subst he
  exact ⟨_, rfl, post_of_same (pa := []) (pv := []) hW' (fun _ _ _ => (trodAll_cons_mk (shut_bool Try.underlying4 _) trodAll_mk0)) (fun sp _ => (trodAll_cons_mk (shut_string Try.underlying9 w0) trodAll_mk0)) (fun _ _ => rfl) rfl
    (hg.frame _) hg.2.1 (ok_one (by kernel_rfl) rfl (okWide_bool_mk Try.underlying4 _))⟩

theorem over : Rows.fnIsTimeOfDayMatchesGrammarRow.holds Try.pinned (OpenSpec.ofChange Rows.fnIsTimeOfDayMatchesGrammarSpec) :=
  OpenClaim.holds_of_wide 3 Try.f3 rfl rfl rfl rfl rfl rfl rfl ⟨rfl, rfl, rfl, rfl, rfl⟩ rfl rfl rfl rfl rfl (by kernel_rfl) Try.func3 (by kernel_rfl)
    (of_decide_eq_true (by kernel_rfl)) (by unfold Func.isWrapper; first | (rw [if_pos (by decide +kernel)]; kernel_rfl) | (rw [if_neg (by decide +kernel)]; exact ⟨rfl, rfl⟩))
    (fun os started H enc _ => lifted os started H enc)

/-- THE STATEMENT -/
theorem proved : Rows.FnIsTimeOfDayMatchesGrammarSaid :=
  over
end Go.Proofs.Qxb6604254a.Grammar
