import Derived.Test.Qxb6604250aTableOff
import Derived.Test.Qxb6604250aTableMid
import Derived.ProofKit
import Derived.ChangeOld
import Derived.Below
namespace Go.Proofs.Qxb6604250a.AtTable
open Go.ChangeShapes Go.WideShapes Go.ChangeAt Go.RowKit

theorem own : ownKnob Try.prog.godebug = none := by kernel_rfl
theorem laidOut : laidOutB Try.prog = true := by kernel_rfl
theorem cells27 : Try.prog.cellsOf 27 = 4 := by kernel_rfl
theorem cells23 : Try.prog.cellsOf 23 = 1 := by kernel_rfl

theorem trod_float {H : Type} {enc : TypeId × Value → H} {P : Program} {w : World} {base : Nat} {spare : Nat → Bool} {held : Bool} {fuel : Nat} {t : TypeId} {k : FloatKind} {cs : List Value} {x : DataW H × List MemPlace}
    (ht : P.underlying t = some (.float k)) (h : DataW.trod enc P w base spare held fuel t cs = some x) : ∃ b, cs = [.float k b] := by
  cases fuel with
  | zero => simp [DataW.trod] at h
  | succ n =>
    unfold DataW.trod at h
    rw [ht] at h
    split at h <;> simp_all

theorem some_of_lt {α : Type} {xs : List α} {i : Nat} (h : i < xs.length) : ∃ y, xs[i]? = some y := ⟨xs[i], List.getElem?_eq_getElem h⟩

theorem block_lt {w : World} {a : Addr} {v : Value} (h : w.cell? a = some v) : a.block < w.heap.size := by
  by_cases hl : a.block < w.heap.size
  · exact hl
  · exfalso
    have : w.heap[a.block]? = none := by simp; omega
    simp [World.cell?, this] at h

/-- One sample read: four floats in four cells. -/
theorem samp_cells {H : Type} {enc : TypeId × Value → H} {W : World} {spare : Nat → Bool} {held : Bool} {n : Nat} {a : Addr} {y : DataW H × List MemPlace}
    (h : (W.cells? 0 a 4).bind (DataW.trod enc Try.prog W 0 spare held n 27) = some y) : ∃ g : Nat → Nat, ∀ j, j < 4 → W.cell? (a.add j) = some (.float .f64 (g j)) := by
  obtain ⟨cs, hcs, ht⟩ := Option.bind_eq_some_iff.1 h
  obtain ⟨xs, k, _, _, hlc, hlen, hx⟩ := DataW.trod_struct Try.underlying27 ht
  have hl : xs.length = 4 := hlen
  rw [cells27] at hlc
  have hcell : ∀ j, j < 4 → W.cell? (a.add j) = cs[j]? := fun j hj => by
    have := World.cells?_some hcs
    exact this.2.2 j hj
  match cs, hlc with
  | [v0, v1, v2, v3], _ =>
    obtain ⟨y0, e0⟩ := some_of_lt (xs := xs) (i := 0) (by omega)
    obtain ⟨y1, e1⟩ := some_of_lt (xs := xs) (i := 1) (by omega)
    obtain ⟨y2, e2⟩ := some_of_lt (xs := xs) (i := 2) (by omega)
    obtain ⟨y3, e3⟩ := some_of_lt (xs := xs) (i := 3) (by omega)
    obtain ⟨g0, h0⟩ := trod_float Try.underlying23 ((hx 0 _ rfl).trans e0)
    obtain ⟨g1, h1⟩ := trod_float Try.underlying23 ((hx 1 _ rfl).trans e1)
    obtain ⟨g2, h2⟩ := trod_float Try.underlying23 ((hx 2 _ rfl).trans e2)
    obtain ⟨g3, h3⟩ := trod_float Try.underlying23 ((hx 3 _ rfl).trans e3)
    simp [cells23] at h0 h1 h2 h3
    refine ⟨fun j => if j = 0 then g0 else if j = 1 then g1 else if j = 2 then g2 else g3, fun j hj => ?_⟩
    rw [hcell j hj]
    have : j = 0 ∨ j = 1 ∨ j = 2 ∨ j = 3 := by omega
    rcases this with rfl | rfl | rfl | rfl <;> simp [h0, h1, h2, h3]

/-- The slice of samples, opened. -/
theorem open_samps {H : Type} {enc : TypeId × Value → H} {W : World} {a0 : Option Addr} {len cap : Nat} {d : DataW H} {p : List MemPlace} (h : DataW.Trod enc Try.prog W 0 (fun _ => true) true 22 (.slice a0 len cap) d p) :
    ∃ G : Nat → Nat → Nat, (len = 0 ∧ (len : Int) ≤ 9223372036854775807) ∨ (∃ b off, a0 = some ⟨b, off, none⟩ ∧ b < W.heap.size ∧ (len : Int) ≤ (cap : Int) ∧ (cap : Int) ≤ 9223372036854775807 ∧ ∀ i, i < len → ∀ j, j < 4 → W.cell? ⟨b, off + i * 4 + j, none⟩ = some (.float .f64 (G i j))) := by
  obtain ⟨fuel, hf⟩ := h
  rcases DataW.trod_slice Try.underlying22 hf with ⟨hcs, _⟩ | ⟨ad, l, c, elems, rest, n, _, hcs, _, _, hl, hm, hlen, hel, _, _⟩
  · simp [Value.cells] at hcs
    obtain ⟨rfl, rfl, rfl⟩ := hcs
    exact ⟨fun _ _ => 0, .inl ⟨rfl, by omega⟩⟩
  · simp [Value.cells] at hcs
    obtain ⟨rfl, rfl, rfl⟩ := hcs
    unfold maxLen at hm
    by_cases hl0 : len = 0
    · exact ⟨fun _ _ => 0, .inl ⟨hl0, by omega⟩⟩
    · have each : ∀ i, i < len → ∃ g : Nat → Nat, ∀ j, j < 4 → W.cell? ((ad.add (i * 4)).add j) = some (.float .f64 (g j)) := by
        intro i hi
        have h1 := hel i hi
        rw [cells27] at h1
        obtain ⟨y, hy⟩ := some_of_lt (xs := elems) (i := i) (by omega)
        rw [hy] at h1
        exact samp_cells h1
      obtain ⟨b, off, spot⟩ := ad
      have hspot : spot = none := by
        obtain ⟨g, hg⟩ := each 0 (by omega)
        simpa [Addr.add] using World.cell?_spot (hg 0 (by omega))
      subst hspot
      have hblt : b < W.heap.size := by
        obtain ⟨g, hg⟩ := each 0 (by omega)
        exact block_lt (hg 0 (by omega))
      have each' : ∀ i, i < len → ∃ g : Nat → Nat, ∀ j, j < 4 → W.cell? ⟨b, off + i * 4 + j, none⟩ = some (.float .f64 (g j)) := by
        intro i hi
        obtain ⟨g, hg⟩ := each i hi
        refine ⟨g, fun j hj => ?_⟩
        have := hg j hj
        rw [add_plain, add_plain] at this
        exact this
      refine ⟨fun i => if hi : i < len then Classical.choose (each' i hi) else fun _ => 0, .inr ⟨b, off, rfl, hblt, by omega, by omega, fun i hi j hj => ?_⟩⟩
      simp only [dif_pos hi]
      exact Classical.choose_spec (each' i hi) j hj

theorem walk (a0 : Option Addr) (len cap : Nat) (i : Int) (t : Nat) (G : Nat → Nat → Nat) (w : World)
    (h : (len = 0 ∧ (len : Int) ≤ 9223372036854775807) ∨ (∃ b off, a0 = some ⟨b, off, none⟩ ∧ b < w.heap.size ∧ (len : Int) ≤ (cap : Int) ∧ (cap : Int) ≤ 9223372036854775807 ∧ ∀ i, i < len → ∀ j, j < 4 → w.cell? ⟨b, off + i * 4 + j, none⟩ = some (.float .f64 (G i j)))) :
    Calls Try.prog 3 #[.slice a0 len cap, .int .i64 i, .float .f64 t] w fun e w' => e = .returned (.bool true) ∧ Below w.heap.size w w' := by
  rcases h with ⟨h0, hl⟩ | ⟨b, off, rfl, hb, hlc, hcm, hcell⟩
  · exact table_out a0 len cap i t G w hl (.inl h0) (by omega)
  · by_cases ho : (32768 : Int) < (len : Int) ∨ i < 0 ∨ (len : Int) ≤ i
    · exact table_out _ len cap i t G w (by omega) (.inr ⟨b, off, rfl, hb, hcell⟩) ho
    · obtain ⟨k, rfl⟩ := Int.eq_ofNat_of_zero_le (a := i) (by omega)
      cases hon : (FloatKind.f64.format.order t (G k 0) == some .eq) with
      | true => exact table_on b off len cap k t G w (by omega) hb hcell (by omega) hon
      | false =>
        by_cases hlast : (len : Int) ≤ (k : Int) + 1
        · exact table_last b off len cap k t G w (by omega) hb hcell (by omega) hon hlast
        · cases h1 : (FloatKind.f64.format.order (G k 0) t == some .lt) with
          | false => exact table_before b off len cap k t G w (by omega) hb hcell (by omega) hon h1
          | true =>
            cases h2 : (FloatKind.f64.format.order t (G (k + 1) 0) == some .lt) with
            | false => exact table_behind b off len cap k t G w (by omega) hb hcell (by omega) hon h1 h2
            | true => exact table_mid b off len cap k t G w (by omega) hlc hcm hb hcell (by omega) hon h1 h2

set_option maxRecDepth 100000 in
theorem lifted (os : Os) (started : os.Started) (H : Type) (enc : TypeId × Value → H) :
    ReturnsInHanded {} Try.checked os 3 .any (Rows.fnAtCaseTableSpec.pre6 enc Try.prog Try.f3 Rows.fnAtCaseTableRow.domain false) (Rows.fnAtCaseTableSpec.post enc Try.prog Try.f3 false true false false) := by
  refine returnsInHanded_of_change (C := Try.checked) own started (by kernel_rfl) Try.func3
    (ChangeSpec.witness6 (enc := enc) (C := Try.checked) false ⟨#[], #[.slice none 0 0, .int .i64 0, .float .f64 0], []⟩ 8 (by kernel_rfl) (by kernel_rfl) (by kernel_rfl) (by kernel_rfl)) ?_
  intro W base args ds gs before hval0 hW hcnd _
  have hval : ∀ (j : Nat) t v, Try.f3.params[j]? = some t → args[j]? = some v → Value.okWide Try.prog W .any base t v := hval0
  have hW' := hW
  obtain ⟨p, q, hA0, hV, rfl, hfz, hnd⟩ := hW
  have hA : DataW.TrodAll enc Try.prog W 0 (fun _ => true) true Try.f3.params.toList args.toList ds p := hA0
  rw [Try.params3] at hA hval
  obtain ⟨v0, v1, v2, d0, d1, d2, p0, p1, p2, rfl, rfl, rfl, h0, h1, h2⟩ := trodAll_three hA
  obtain ⟨rfl, rfl⟩ := trodVars_none hV
  obtain ⟨a0, len, cap, rfl⟩ := okWide_slice Try.underlying22 (hval 0 22 v0 rfl rfl)
  have lt0 : ∀ x ∈ p0, x.block < W.heap.size := by obtain ⟨m, hm⟩ := h0; exact DataW.trod_lt m _ _ _ hm
  obtain ⟨G, hG⟩ := open_samps h0
  obtain ⟨i, rfl, rfl, rfl, wi⟩ := open_int Try.underlying3 (hval 1 3 v1 rfl rfl) h1
  obtain ⟨t, rfl, rfl, rfl, wt⟩ := open_float Try.underlying23 (hval 2 23 v2 rfl rfl) h2
  clear hA0 hval0
  refine (walk a0 len cap i t G W hG).mono fun e W' ⟨he, bel⟩ => ?_
  subst he
  exact ⟨_, rfl, _, _, _, [], _, [], hW', trodAll_mk1 (shut_bool Try.underlying4 _), trodAll_mk3 (Below.trod laidOut (by kernel_rfl) (of_decide_eq_true (by kernel_rfl)) h0 bel lt0) (shut_int Try.underlying3 wi) (shut_float Try.underlying23 wt), rfl, bel.frame _, fun h => by cases h⟩

theorem over : Rows.fnAtCaseTableRow.holds Try.pinned (OpenSpec.ofChange Rows.fnAtCaseTableSpec) :=
  OpenClaim.holds_of_wide 3 Try.f3 rfl rfl rfl rfl rfl rfl rfl ⟨rfl, rfl, rfl, rfl, rfl⟩ rfl rfl rfl rfl rfl (by kernel_rfl) Try.func3 (by kernel_rfl)
    (of_decide_eq_true (by kernel_rfl)) (by unfold Func.isWrapper; first | (rw [if_pos (by decide +kernel)]; kernel_rfl) | (rw [if_neg (by decide +kernel)]; exact ⟨rfl, rfl⟩))
    (fun os started H enc _ => lifted os started H enc)

/-- THE STATEMENT. -/
theorem proved : Rows.FnAtCaseTableSaid := over
end Go.Proofs.Qxb6604250a.AtTable
