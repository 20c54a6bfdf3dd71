import Derived.Test.Qxb6604194aPerWalk
import Derived.Test.Qxb6604194aFact
import Derived.Test.Qxb6604194aTopo
import Derived.ChangeOld
import Derived.Below
namespace Go.Proofs.Qxb6604194a.Period
open Go.ChangeShapes Go.WideShapes Go.ChangeAt Go.RowKit

theorem walk (n s h m v q c r : Int) (f a x u g : Bool) (k : Int) (w : World) (hn1 : -9223372036854775808 ≤ n) (hn2 : n ≤ 9223372036854775807) (hs2 : s ≤ 9223372036854775807) (hh2 : h ≤ 9223372036854775807) :
    Calls Try.prog 3 #[.agg #[.int .i64 n, .int .i64 s, .int .i64 h, .int .u8 m, .int .u8 v, .int .i64 q, .bool f, .int .i64 c, .bool a, .bool x, .int .u8 r, .bool u, .bool g], .int .u8 k] w fun e w' => e = .returned (.bool true) ∧ Below w.heap.size w w' := by
  by_cases ho : h < 1 ∨ s < 1
  · exact per_out n s h m v q c r f a x u g k w ho
  · by_cases hk : k = 1
    · subst hk
      by_cases hf : Fit n h s
      · have hb : 0 ≤ perF n h s ∧ perF n h s ≤ n := by
          by_cases h1 : 1 ≤ n
          · have := perF_of_pos n h s (by omega) (by omega) h1
            omega
          · have h0 := hf.1
            rw [perF_of_neg n h s (by omega) (by omega) (by omega)]
            omega
        exact per_fit n s h m v q c r f a x u g (perF n h s) w (by omega) (by omega) hn1 hn2 hs2 hh2 hf rfl (by omega) (by omega)
      · exact per_notfit n s h m v q c r f a x u g w (by omega) (by omega) hn1 hn2 hs2 hh2 hf (perF_notfit n h s (by omega) (by omega) hf)
    · exact per_other n s h m v q c r f a x u g k (by rw [bne_iff_ne]; exact hk) w (by omega) (by omega)

set_option maxRecDepth 100000 in
theorem lifted (os : Os) (started : os.Started) (H : Type) (enc : TypeId × Value → H) :
    ReturnsInHanded {} Try.checked os 3 .any (Rows.fnPeriodIsLcmCappedBySubscribersSpec.pre6 enc Try.prog Try.f3 Rows.fnPeriodIsLcmCappedBySubscribersRow.domain false) (Rows.fnPeriodIsLcmCappedBySubscribersSpec.post enc Try.prog Try.f3 false true false false) := by
  refine returnsInHanded_of_change (C := Try.checked) Try.own started (by kernel_rfl) Try.func3
    (ChangeSpec.witness6 (enc := enc) (C := Try.checked) false ⟨#[], #[.agg #[.int .i64 0, .int .i64 0, .int .i64 0, .int .u8 0, .int .u8 0, .int .i64 0, .bool false, .int .i64 0, .bool false, .bool false, .int .u8 0, .bool false, .bool false], .int .u8 0], []⟩ 8 (by kernel_rfl) (by kernel_rfl) (by kernel_rfl) (by kernel_rfl)) ?_
  intro W base args ds gs before hval0 hW hcnd _
  have hval : ∀ (j : Nat) t v, Try.f3.params[j]? = some t → args[j]? = some v → Value.okWide Try.prog W .any base t v := hval0
  have hW' := hW
  obtain ⟨p, q, hA0, hV, rfl, hfz, hnd⟩ := hW
  have hA : DataW.TrodAll enc Try.prog W 0 (fun _ => true) true Try.f3.params.toList args.toList ds p := hA0
  rw [Try.params3] at hA hval
  obtain ⟨v0, v1, d0, d1, p0, p1, rfl, rfl, rfl, h0, h1⟩ := trodAll_two hA
  obtain ⟨rfl, rfl⟩ := trodVars_none hV
  have k0 := h0
  have lt0 : ∀ x ∈ p0, x.block < W.heap.size := by obtain ⟨m, hm⟩ := k0; exact DataW.trod_lt m _ _ _ hm
  obtain ⟨n, s, h, m, v, q, c, r, f, a, x, u, g, rfl, ⟨hn1, hn2⟩, ⟨hs1, hs2⟩, ⟨hh1, hh2⟩⟩ := open_topo (hval 0 23 v0 rfl rfl) h0
  obtain ⟨k, rfl, rfl, rfl, wk⟩ := open_int Try.underlying5 (hval 1 5 v1 rfl rfl) h1
  clear hA0 hval0
  refine (walk n s h m v q c r f a x u g k W hn1 hn2 hs2 hh2).mono fun e W' ⟨he, bel⟩ => ?_
  subst he
  exact ⟨_, rfl, _, _, _, [], _, [], hW', trodAll_mk1 (shut_bool Try.underlying4 _), trodAll_mk2 (Below.trod Try.laidOut (by kernel_rfl) (of_decide_eq_true (by kernel_rfl)) k0 bel lt0) (shut_int Try.underlying5 wk), rfl, bel.frame _, fun h => by cases h⟩

theorem over : Rows.fnPeriodIsLcmCappedBySubscribersRow.holds Try.pinned (OpenSpec.ofChange Rows.fnPeriodIsLcmCappedBySubscribersSpec) :=
  OpenClaim.holds_of_wide 3 Try.f3 rfl rfl rfl rfl rfl rfl rfl ⟨rfl, rfl, rfl, rfl, rfl⟩ rfl rfl rfl rfl rfl (by kernel_rfl) Try.func3 (by kernel_rfl)
    (of_decide_eq_true (by kernel_rfl)) (by unfold Func.isWrapper; first | (rw [if_pos (by decide +kernel)]; kernel_rfl) | (rw [if_neg (by decide +kernel)]; exact ⟨rfl, rfl⟩))
    (fun os started H enc _ => lifted os started H enc)

/-- THE STATEMENT. -/
theorem proved : Rows.FnPeriodIsLcmCappedBySubscribersSaid := over
end Go.Proofs.Qxb6604194a.Period
