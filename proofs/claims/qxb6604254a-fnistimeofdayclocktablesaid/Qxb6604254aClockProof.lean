import Derived.Test.Qxb6604254aClockC
import Derived.Test.Qxb6604254aClockD
import Derived.Test.Qxb6604254aClockE
import Derived.ProofKit
import Derived.OpenShut
import Derived.ChangeOld
import Derived.Below
namespace Go.Proofs.Qxb6604254a.ClockTable
open Go.ChangeShapes Go.WideShapes Go.ChangeAt Go.RowKit

theorem own : ownKnob Try.prog.godebug = none := by kernel_rfl

set_option maxRecDepth 10000 in
set_option maxHeartbeats 1000000 in
theorem walk_out (h mi se fd oh om : Int) (a b c d : Bool) (w : World) (hout : ¬ InClock h mi se fd oh om) :
    Calls Try.prog 4 #[.int .i64 h, .int .i64 mi, .int .i64 se, .int .i64 fd, .bool a, .bool b, .bool c, .bool d, .int .i64 oh, .int .i64 om] w fun e w' => e = .returned (.bool true) ∧ Below w.heap.size w w' := by
  go_enter Try.func4, Try.ntmps4
  go_wp2_with fail
  refine (clock_out h mi se fd oh om _ hout).mono ?_
  rintro e w1 ⟨rfl, rfl⟩
  clear hout
  go_wp2
  go_ret
  exact ⟨rfl, Below.refl _ _⟩

theorem walk (h mi se fd : Int) (a b c d : Bool) (oh om : Int) (w : World) :
    Calls Try.prog 4 #[.int .i64 h, .int .i64 mi, .int .i64 se, .int .i64 fd, .bool a, .bool b, .bool c, .bool d, .int .i64 oh, .int .i64 om] w fun e w' => e = .returned (.bool true) ∧ Below w.heap.size w w' := by
  by_cases hin : InClock h mi se fd oh om
  · obtain ⟨N, rfl⟩ := Int.eq_ofNat_of_zero_le (a := fd) hin.2.2.2.2.2.1
    by_cases hf : (0 : Int) < (N : Int)
    · cases a with
      | true =>
        cases b with
        | true =>
          cases c with
          | true => exact frac_T_om h mi se oh om N d w hin hf
          | false => exact frac_T_op h mi se oh om N d w hin hf
        | false =>
          cases d with
          | true => exact frac_T_Z h mi se oh om N c w hin hf
          | false => exact frac_T_z h mi se oh om N c w hin hf
      | false =>
        cases b with
        | true =>
          cases c with
          | true => exact frac_t_om h mi se oh om N d w hin hf
          | false => exact frac_t_op h mi se oh om N d w hin hf
        | false =>
          cases d with
          | true => exact frac_t_Z h mi se oh om N c w hin hf
          | false => exact frac_t_z h mi se oh om N c w hin hf
    · cases a with
      | true =>
        cases b with
        | true =>
          cases c with
          | true => exact plain_T_om h mi se oh om N d w hin hf
          | false => exact plain_T_op h mi se oh om N d w hin hf
        | false =>
          cases d with
          | true => exact plain_T_Z h mi se oh om N c w hin hf
          | false => exact plain_T_z h mi se oh om N c w hin hf
      | false =>
        cases b with
        | true =>
          cases c with
          | true => exact plain_t_om h mi se oh om N d w hin hf
          | false => exact plain_t_op h mi se oh om N d w hin hf
        | false =>
          cases d with
          | true => exact plain_t_Z h mi se oh om N c w hin hf
          | false => exact plain_t_z h mi se oh om N c w hin hf
  · exact walk_out h mi se fd oh om a b c d w hin

set_option maxRecDepth 100000 in
theorem lifted (os : Os) (started : os.Started) (H : Type) (enc : TypeId × Value → H) :
    ReturnsInHanded {} Try.checked os 4 .any (Rows.fnIsTimeOfDayClockTableSpec.pre6 enc Try.prog Try.f4 Rows.fnIsTimeOfDayClockTableRow.domain false) (Rows.fnIsTimeOfDayClockTableSpec.post enc Try.prog Try.f4 false true false false) := by
  refine returnsInHanded_of_change (C := Try.checked) own started (by kernel_rfl) Try.func4
    (ChangeSpec.witness6 (enc := enc) (C := Try.checked) false ⟨#[], #[.int .i64 0, .int .i64 0, .int .i64 0, .int .i64 0, .bool false, .bool false, .bool false, .bool false, .int .i64 0, .int .i64 0], []⟩ 8 (by kernel_rfl) (by kernel_rfl) (by kernel_rfl) (by kernel_rfl)) ?_
  intro W base args ds gs before hval0 hW hcnd _
  have hval : ∀ (j : Nat) t v, Try.f4.params[j]? = some t → args[j]? = some v → Value.okWide Try.prog W .any base t v := hval0
  have hW' := hW
  obtain ⟨p, q, hA0, hV, rfl, hfz, hnd⟩ := hW
  have hA : DataW.TrodAll enc Try.prog W 0 (fun _ => true) true Try.f4.params.toList args.toList ds p := hA0
  rw [Try.params4] at hA hval
  obtain ⟨v0, vs0, d0, ds0, p0, q0, hargs, rfl, rfl, h0, r0⟩ := trodAll_cons hA
  obtain ⟨v1, vs1, d1, ds1, p1, q1, rfl, rfl, rfl, h1, r1⟩ := trodAll_cons r0
  obtain ⟨v2, vs2, d2, ds2, p2, q2, rfl, rfl, rfl, h2, r2⟩ := trodAll_cons r1
  obtain ⟨v3, vs3, d3, ds3, p3, q3, rfl, rfl, rfl, h3, r3⟩ := trodAll_cons r2
  obtain ⟨v4, vs4, d4, ds4, p4, q4, rfl, rfl, rfl, h4, r4⟩ := trodAll_cons r3
  obtain ⟨v5, vs5, d5, ds5, p5, q5, rfl, rfl, rfl, h5, r5⟩ := trodAll_cons r4
  obtain ⟨v6, vs6, d6, ds6, p6, q6, rfl, rfl, rfl, h6, r6⟩ := trodAll_cons r5
  obtain ⟨v7, vs7, d7, ds7, p7, q7, rfl, rfl, rfl, h7, r7⟩ := trodAll_cons r6
  obtain ⟨v8, vs8, d8, ds8, p8, q8, rfl, rfl, rfl, h8, r8⟩ := trodAll_cons r7
  obtain ⟨v9, vs9, d9, ds9, p9, q9, rfl, rfl, rfl, h9, r9⟩ := trodAll_cons r8
  obtain ⟨rfl, rfl, rfl⟩ := trodAll_nil r9
  obtain rfl : args = #[v0, v1, v2, v3, v4, v5, v6, v7, v8, v9] := by cases args; simp_all
  obtain ⟨rfl, rfl⟩ := trodVars_none hV
  obtain ⟨a0, rfl, rfl, rfl, w0⟩ := open_int Try.underlying3 (hval 0 3 v0 rfl rfl) h0
  obtain ⟨a1, rfl, rfl, rfl, w1⟩ := open_int Try.underlying3 (hval 1 3 v1 rfl rfl) h1
  obtain ⟨a2, rfl, rfl, rfl, w2⟩ := open_int Try.underlying3 (hval 2 3 v2 rfl rfl) h2
  obtain ⟨a3, rfl, rfl, rfl, w3⟩ := open_int Try.underlying3 (hval 3 3 v3 rfl rfl) h3
  obtain ⟨a4, rfl, rfl, rfl⟩ := open_bool Try.underlying4 (hval 4 4 v4 rfl rfl) h4
  obtain ⟨a5, rfl, rfl, rfl⟩ := open_bool Try.underlying4 (hval 5 4 v5 rfl rfl) h5
  obtain ⟨a6, rfl, rfl, rfl⟩ := open_bool Try.underlying4 (hval 6 4 v6 rfl rfl) h6
  obtain ⟨a7, rfl, rfl, rfl⟩ := open_bool Try.underlying4 (hval 7 4 v7 rfl rfl) h7
  obtain ⟨a8, rfl, rfl, rfl, w8⟩ := open_int Try.underlying3 (hval 8 3 v8 rfl rfl) h8
  obtain ⟨a9, rfl, rfl, rfl, w9⟩ := open_int Try.underlying3 (hval 9 3 v9 rfl rfl) h9
  clear hA0 hval0
  simp only [List.append_nil] at hW'
  refine (walk a0 a1 a2 a3 a4 a5 a6 a7 a8 a9 W).mono fun e W' ⟨he, bel⟩ => ?_
  subst he
  exact ⟨_, rfl, _, _, _, [], [], [], hW', trodAll_mk1 (shut_bool Try.underlying4 _), (trodAll_cons_mk (shut_int Try.underlying3 w0) (trodAll_cons_mk (shut_int Try.underlying3 w1) (trodAll_cons_mk (shut_int Try.underlying3 w2) (trodAll_cons_mk (shut_int Try.underlying3 w3) (trodAll_cons_mk (shut_bool Try.underlying4 _) (trodAll_cons_mk (shut_bool Try.underlying4 _) (trodAll_cons_mk (shut_bool Try.underlying4 _) (trodAll_cons_mk (shut_bool Try.underlying4 _) (trodAll_cons_mk (shut_int Try.underlying3 w8) (trodAll_cons_mk (shut_int Try.underlying3 w9) trodAll_mk0)))))))))), rfl, bel.frame _, fun h => by cases h⟩

theorem over : Rows.fnIsTimeOfDayClockTableRow.holds Try.pinned (OpenSpec.ofChange Rows.fnIsTimeOfDayClockTableSpec) :=
  OpenClaim.holds_of_wide 4 Try.f4 rfl rfl rfl rfl rfl rfl rfl ⟨rfl, rfl, rfl, rfl, rfl⟩ rfl rfl rfl rfl rfl (by kernel_rfl) Try.func4 (by kernel_rfl)
    (of_decide_eq_true (by kernel_rfl)) (by unfold Func.isWrapper; first | (rw [if_pos (by decide +kernel)]; kernel_rfl) | (rw [if_neg (by decide +kernel)]; exact ⟨rfl, rfl⟩))
    (fun os started H enc _ => lifted os started H enc)

/-- THE STATEMENT -/
theorem proved : Rows.FnIsTimeOfDayClockTableSaid :=
  over
end Go.Proofs.Qxb6604254a.ClockTable
