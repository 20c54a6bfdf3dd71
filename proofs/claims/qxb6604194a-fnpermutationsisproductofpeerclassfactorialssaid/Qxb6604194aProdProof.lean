import Derived.Test.Qxb6604194aProdWalk
import Derived.Test.Qxb6604194aTopo
import Derived.ChangeOld
import Derived.Below
namespace Go.Proofs.Qxb6604194a.PermProd
open Go.ChangeShapes Go.WideShapes Go.ChangeAt Go.RowKit

theorem walk (n s h m v q c r : Int) (f a x u g : Bool) (w : World) (hn1 : -9223372036854775808 ≤ n) (hs2 : s ≤ 9223372036854775807) (hh2 : h ≤ 9223372036854775807) :
    Calls Try.prog 4 #[.agg #[.int .i64 n, .int .i64 s, .int .i64 h, .int .u8 m, .int .u8 v, .int .i64 q, .bool f, .int .i64 c, .bool a, .bool x, .int .u8 r, .bool u, .bool g]] w fun e w' => e = .returned (.bool true) ∧ Below w.heap.size w w' := by
  by_cases ho : 65536 < n ∨ h < 1 ∨ s < 1
  · exact prod_out n s h m v q c r f a x u g w ho
  · by_cases hn : n ≤ 0
    · exact prod_none n s h m v q c r f a x u g w (by omega) (by omega) hn1 hn hs2 hh2
    · obtain ⟨N, rfl⟩ := Int.eq_ofNat_of_zero_le (a := n) (by omega)
      have hp := perF_of_pos (N : Int) h s (by omega) (by omega) (by omega)
      by_cases h1 : N = 1
      · exact prod_single N s h m v q c r f a x u g w (by omega) (by omega) h1 hs2 hh2 (show _ = _ by omega)
      · by_cases hf : Fit (N : Int) h s
        · obtain ⟨P, hP⟩ := Int.eq_ofNat_of_zero_le (a := perF (N : Int) h s) (by omega)
          have hP1 : 1 ≤ P := by omega
          have hP2 : P ≤ N := by omega
          refine prod_fit N P (N / P) (N % P) (sat (fac (N / P))) (sat (fac (N / P + 1))) s h m v q c r f a x u g w (by omega) (by omega) (by omega) (by omega) hs2 hh2 hf hP hP1 hP2 (by simp) (by simp) ?_ rfl rfl ⟨sat_pos _ (fac_pos _), sat_le _⟩ ⟨sat_pos _ (fac_pos _), sat_le _⟩ (fun i hi => sz_eq N P i hP1 hP2 hi)
          have := Nat.div_le_self N P
          omega
        · exact prod_notfit N s h m v q c r f a x u g w (by omega) (by omega) (by omega) (by omega) hs2 hh2 hf (perF_notfit (N : Int) h s (by omega) (by omega) hf)

set_option maxRecDepth 100000 in
theorem lifted (os : Os) (started : os.Started) (H : Type) (enc : TypeId × Value → H) :
    ReturnsInHanded {} Try.checked os 4 .any (Rows.fnPermutationsIsProductOfPeerClassFactorialsSpec.pre6 enc Try.prog Try.f4 Rows.fnPermutationsIsProductOfPeerClassFactorialsRow.domain false) (Rows.fnPermutationsIsProductOfPeerClassFactorialsSpec.post enc Try.prog Try.f4 false true false false) := by
  refine returnsInHanded_of_change (C := Try.checked) Try.own started (by kernel_rfl) Try.func4
    (ChangeSpec.witness6 (enc := enc) (C := Try.checked) false ⟨#[], #[.agg #[.int .i64 0, .int .i64 0, .int .i64 0, .int .u8 0, .int .u8 0, .int .i64 0, .bool false, .int .i64 0, .bool false, .bool false, .int .u8 0, .bool false, .bool false]], []⟩ 8 (by kernel_rfl) (by kernel_rfl) (by kernel_rfl) (by kernel_rfl)) ?_
  intro W base args ds gs before hval0 hW hcnd _
  have hval : ∀ (j : Nat) t v, Try.f4.params[j]? = some t → args[j]? = some v → Value.okWide Try.prog W .any base t v := hval0
  have hW' := hW
  obtain ⟨p, q, hA0, hV, rfl, hfz, hnd⟩ := hW
  have hA : DataW.TrodAll enc Try.prog W 0 (fun _ => true) true Try.f4.params.toList args.toList ds p := hA0
  rw [Try.params4] at hA hval
  obtain ⟨v0, d0, rfl, rfl, h0⟩ := trodAll_one hA
  obtain ⟨rfl, rfl⟩ := trodVars_none hV
  have k0 := h0
  have lt0 : ∀ x ∈ p, x.block < W.heap.size := by obtain ⟨m, hm⟩ := k0; exact DataW.trod_lt m _ _ _ hm
  obtain ⟨n, s, h, m, v, q, c, r, f, a, x, u, g, rfl, ⟨hn1, hn2⟩, ⟨hs1, hs2⟩, ⟨hh1, hh2⟩⟩ := open_topo (hval 0 23 v0 rfl rfl) h0
  clear hA0 hval0
  refine (walk n s h m v q c r f a x u g W hn1 hs2 hh2).mono fun e W' ⟨he, bel⟩ => ?_
  subst he
  exact ⟨_, rfl, _, _, _, [], _, [], hW', trodAll_mk1 (shut_bool Try.underlying4 _), trodAll_mk1 (Below.trod Try.laidOut (by kernel_rfl) (of_decide_eq_true (by kernel_rfl)) k0 bel lt0), rfl, bel.frame _, fun h => by cases h⟩

theorem over : Rows.fnPermutationsIsProductOfPeerClassFactorialsRow.holds Try.pinned (OpenSpec.ofChange Rows.fnPermutationsIsProductOfPeerClassFactorialsSpec) :=
  OpenClaim.holds_of_wide 4 Try.f4 rfl rfl rfl rfl rfl rfl rfl ⟨rfl, rfl, rfl, rfl, rfl⟩ rfl rfl rfl rfl rfl (by kernel_rfl) Try.func4 (by kernel_rfl)
    (of_decide_eq_true (by kernel_rfl)) (by unfold Func.isWrapper; first | (rw [if_pos (by decide +kernel)]; kernel_rfl) | (rw [if_neg (by decide +kernel)]; exact ⟨rfl, rfl⟩))
    (fun os started H enc _ => lifted os started H enc)

/-- THE STATEMENT. -/
theorem proved : Rows.FnPermutationsIsProductOfPeerClassFactorialsSaid := over
end Go.Proofs.Qxb6604194a.PermProd
