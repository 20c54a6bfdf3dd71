import Derived.Test.Qxb6604250aTable
namespace Go.Proofs.Qxb6604250a
open Go.RowKit
attribute [local go_sem] run_store_float setCell_drewN alloc_drewN

theorem factor_same {ta t tb f f' : Nat} (h : Factor ta t tb f) (h' : Factor ta t tb f') : SameB f f' := by
  obtain ⟨d1, d2, a1, a2, a3⟩ := h
  obtain ⟨e1, e2, b1, b2, b3⟩ := h'
  exact res_same div_nan (res_same sub_nan (.refl _) (.refl _) a1 b1) (res_same sub_nan (.refl _) (.refl _) a2 b2) a3 b3

theorem interp_same {f f' xa xb r r' : Nat} (hf : SameB f f') (h : Interp f xa xb r) (h' : Interp f' xa xb r') : SameB r r' := by
  obtain ⟨d, m, a1, a2, a3⟩ := h
  obtain ⟨e, n, b1, b2, b3⟩ := h'
  exact res_same add_nan (.refl _) (res_same mul_nan hf (res_same sub_nan (.refl _) (.refl _) a1 b1) a2 b2) a3 b3

/-- An instant strictly between two finite ones is finite. -/
theorem between {ta t tb : Nat} {s s' : Bool} {m m' : Nat} {i i' : Int} (ha : Ieee.double.read ta = .number s m i) (hb : Ieee.double.read tb = .number s' m' i') (hi : -1074 ≤ i) (hi' : -1074 ≤ i')
    (h1 : Ieee.double.order ta t = some .lt) (h2 : Ieee.double.order t tb = some .lt) : ∃ u n j, Ieee.double.read t = .number u n j ∧ -1074 ≤ j ∧ val s m i < val u n j ∧ val u n j < val s' m' i' := by
  unfold Ieee.Format.order at h1 h2
  rw [ha] at h1
  rw [hb] at h2
  rcases read_three t with ⟨u, n, j, e, hj, _⟩ | ⟨u, e⟩ | ⟨u, g, e⟩
  · rw [e, order_num _ _ _ _ _ _ hi hj] at h1
    rw [e, order_num _ _ _ _ _ _ hj hi'] at h2
    exact ⟨u, n, j, e, hj, Int.compare_eq_lt.1 (Option.some.inj h1), Int.compare_eq_lt.1 (Option.some.inj h2)⟩
  · rw [e] at h1 h2
    cases u
    · cases h2
    · cases h1
  · rw [e] at h1; cases h1

theorem kept_of {ta t tb f xa xb r : Nat} (h1 : Ieee.double.order ta t = some .lt) (h2 : Ieee.double.order t tb = some .lt) (sa : Small ta) (sb : Small tb) (hf : Factor ta t tb f) (hr : Interp f xa xb r) :
    Ieee.double.order xa xb = some .eq → Finite xa → Ieee.double.order r xa = some .eq := by
  intro he hfin
  obtain ⟨s, m, i, e, hi, hlo, _⟩ := sa
  obtain ⟨s', m', i', e', hi', _, hhi⟩ := sb
  obtain ⟨u, n, j, et, hj, l1, l2⟩ := between e e' hi hi' h1 h2
  obtain ⟨d1, d2, q1, q2, q3⟩ := hf
  have ff := factor_fin 2074 (by omega) e et e' hi hj hi' l1 l2 hlo hhi q1 q2 q3
  obtain ⟨d, g, p1, p2, p3⟩ := hr
  exact kept ff he hfin p1 p2 p3

set_option maxRecDepth 100000 in
set_option maxHeartbeats 2000000 in
/-- Strictly inside a segment. -/
theorem table_mid (b off len cap k t : Nat) (G : Nat → Nat → Nat) (w : World) (hl : (len : Int) ≤ 32768) (hlc : (len : Int) ≤ (cap : Int)) (hcm : (cap : Int) ≤ 9223372036854775807) (hb : b < w.heap.size) (hcell : ∀ i, i < len → ∀ j, j < 4 → w.cell? ⟨b, off + i * 4 + j, none⟩ = some (.float .f64 (G i j)))
    (hk : (k : Int) + 1 < (len : Int)) (hon : (FloatKind.f64.format.order t (G k 0) == some .eq) = false) (hlt : (FloatKind.f64.format.order (G k 0) t == some .lt) = true) (hlt2 : (FloatKind.f64.format.order t (G (k + 1) 0) == some .lt) = true) :
    Calls Try.prog 3 #[.slice (some ⟨b, off, none⟩) len cap, .int .i64 (k : Int), .float .f64 t] w fun e w' => e = .returned (.bool true) ∧ Below w.heap.size w w' := by
  have O1 : Hid (Ieee.double.order (G k 0) t = some .lt) := by
    show _ = _
    simpa [FloatKind.format] using hlt
  have O2 : Hid (Ieee.double.order t (G (k + 1) 0) = some .lt) := by
    show _ = _
    simpa [FloatKind.format] using hlt2
  have hnot : (FloatKind.f64.format.order (G k 0) t == some .eq) = false := by
    show (Ieee.double.order (G k 0) t == some .eq) = false
    rw [O1.out]; rfl
  have hself : (FloatKind.f64.format.order t t != some .eq) = false := by
    show (Ieee.double.order t t != some .eq) = false
    have hn : ¬ NaN t := by
      intro h
      have := O1.out
      rw [order_nan_right h] at this
      cases this
    rw [order_refl hn]; rfl
  have hS : IsSamps w (some ⟨b, off, none⟩) len G := .inr ⟨b, off, rfl, hb, hcell⟩
  have c0 : w.cell? ⟨b, off + k * 4, none⟩ = some (.float .f64 (G k 0)) := hcell k (by omega) 0 (by omega)
  have c1 : w.cell? ⟨b, off + k * 4 + 1, none⟩ = some (.float .f64 (G k 1)) := hcell k (by omega) 1 (by omega)
  have c2 : w.cell? ⟨b, off + k * 4 + 2, none⟩ = some (.float .f64 (G k 2)) := hcell k (by omega) 2 (by omega)
  have c3 : w.cell? ⟨b, off + k * 4 + 3, none⟩ = some (.float .f64 (G k 3)) := hcell k (by omega) 3 (by omega)
  have b0 : w.cell? ⟨b, off + (k + 1) * 4, none⟩ = some (.float .f64 (G (k + 1) 0)) := hcell (k + 1) (by omega) 0 (by omega)
  have HC : Hid (∀ i, i < len → ∀ j, j < 4 → w.cell? ⟨b, off + i * 4 + j, none⟩ = some (.float .f64 (G i j))) := hcell
  clear hcell
  have h1 : ¬ (32768 : Int) < (len : Int) := by omega
  have h2 : ¬ (k : Int) < 0 := by omega
  have h3 : ¬ (len : Int) ≤ (k : Int) := by omega
  go_enter Try.func3, Try.ntmps3
  go_wp2_with fail
  refine (bytes6_any _ len cap _ t _ (by omega)).mono ?_
  rintro e w0 ⟨⟨β, rfl⟩, rfl⟩
  cases β
  · go_wp2
    go_ret
    exact ⟨rfl, Below.refl _ _⟩
  go_wp2_with fail
  refine (incr_any _ len cap G _ hl hS).mono ?_
  rintro e w1 ⟨⟨β, rfl⟩, nd, rfl⟩
  cases β
  · go_wp2
    go_ret
    exact ⟨rfl, below_drewN (Below.refl _ _) _⟩
  clear hS
  have h4 : ¬ (len : Int) ≤ (k : Int) + 1 := by omega
  go_wp2_with fail
  have hbel1 : Below w0.heap.size w0 ((w0.alloc (.cells #[.float .f64 (G k 0), .float .f64 (G k 1), .float .f64 (G k 2), .float .f64 (G k 3)] 27)).drewN nd) := below_drewN ((Below.refl _ _).alloc (Nat.le_refl _) _) _
  refine (samples_at (w0.heap.size + 1) _ len cap G _ (by simp) (by omega) (samps_up hb hbel1 HC.out)).mono ?_
  rintro e w2 ⟨rfl, hb2, hz2, hr2⟩
  go_wp2_with fail
  refine (zzat_mid (w0.heap.size + 1) len len k t _ _ _ _ _ _ _ _ w2 hk (by omega) (by omega) (hr2 k (by omega)) (hr2 (k + 1) (by omega)) hnot).mono ?_
  rintro e w3 ⟨f, r1, r2, r3, rfl, hfac, hi1, hi2, hi3, hb3⟩
  have hbel3 : Below w0.heap.size w0 w3 := (hbel1.trans (hb2.mono (by omega))).trans (hb3.mono (by omega))
  have hz3 : w0.heap.size + 2 ≤ w3.heap.size := by have := hb3.size; omega
  have key : ∀ j, w3.cell? ⟨w0.heap.size, j, none⟩ = (w0.alloc (.cells #[.float .f64 (G k 0), .float .f64 (G k 1), .float .f64 (G k 2), .float .f64 (G k 3)] 27)).cell? ⟨w0.heap.size, j, none⟩ := fun j =>
    (hb3.cell (p := ⟨w0.heap.size, j, none⟩) (by show w0.heap.size < w2.heap.size; omega)).trans (hb2.cell (p := ⟨w0.heap.size, j, none⟩) (by show w0.heap.size < w0.heap.size + 1; omega))
  have a0 : w3.cell? ⟨w0.heap.size, 0, none⟩ = some (.float .f64 (G k 0)) := by rw [key]; simp
  have a1 : w3.cell? ⟨w0.heap.size, 1, none⟩ = some (.float .f64 (G k 1)) := by rw [key]; simp
  have a2 : w3.cell? ⟨w0.heap.size, 2, none⟩ = some (.float .f64 (G k 2)) := by rw [key]; simp
  have a3 : w3.cell? ⟨w0.heap.size, 3, none⟩ = some (.float .f64 (G k 3)) := by rw [key]; simp
  have e0 : w3.cell? ⟨b, off + (k + 1) * 4, none⟩ = some (.float .f64 (G (k + 1) 0)) := (hbel3.cell (p := ⟨b, off + (k + 1) * 4, none⟩) hb).trans (HC.out (k + 1) (by omega) 0 (by omega))
  have e1 : w3.cell? ⟨b, off + (k + 1) * 4 + 1, none⟩ = some (.float .f64 (G (k + 1) 1)) := (hbel3.cell (p := ⟨b, off + (k + 1) * 4 + 1, none⟩) hb).trans (HC.out (k + 1) (by omega) 1 (by omega))
  have e2 : w3.cell? ⟨b, off + (k + 1) * 4 + 2, none⟩ = some (.float .f64 (G (k + 1) 2)) := (hbel3.cell (p := ⟨b, off + (k + 1) * 4 + 2, none⟩) hb).trans (HC.out (k + 1) (by omega) 2 (by omega))
  have e3 : w3.cell? ⟨b, off + (k + 1) * 4 + 3, none⟩ = some (.float .f64 (G (k + 1) 3)) := (hbel3.cell (p := ⟨b, off + (k + 1) * 4 + 3, none⟩) hb).trans (HC.out (k + 1) (by omega) 3 (by omega))
  have hz4 : w0.heap.size < w3.heap.size := by omega
  have hb4 : b < w3.heap.size := by omega
  have h5 : (k : Int) ≤ (k : Int) + 2 := by omega
  have h6 : (k : Int) + 2 ≤ (cap : Int) := by omega
  clear key hb2 hb3 hr2 hbel1 hz2 hz3 c0 c1 c2 c3 b0
  go_wp2_with fail
  have hbel4 : Below w3.heap.size w3 ((w3.alloc (.cells #[.float .f64 t, .float .f64 r1, .float .f64 r2, .float .f64 r3] 28)).alloc (.cells #[.float .f64 (G (k + 1) 0), .float .f64 (G (k + 1) 1), .float .f64 (G (k + 1) 2), .float .f64 (G (k + 1) 3)] 27)) := ((Below.refl _ _).alloc (Nat.le_refl _) _).alloc (by simp) _
  have hcell2 : ∀ i, i < 2 → ∀ j, j < 4 → w3.cell? ⟨b, off + k * 4 + i * 4 + j, none⟩ = some (.float .f64 (G (k + i) j)) := by
    intro i hi j hj
    have := (hbel3.cell (p := ⟨b, off + (k + i) * 4 + j, none⟩) hb).trans (HC.out (k + i) (by omega) j hj)
    rw [show off + k * 4 + i * 4 + j = off + (k + i) * 4 + j from by omega]
    exact this
  refine (samples_at (w3.heap.size + 2) _ 2 (cap - k) (fun i j => G (k + i) j) _ (by simp) (by omega) (samps_up hb4 hbel4 hcell2)).mono ?_
  rintro e w5 ⟨rfl, hb5, hz5, hr5⟩
  go_wp2_with fail
  refine (zzat_mid (w3.heap.size + 2) 2 2 0 t (G k 0) (G k 1) (G k 2) (G k 3) (G (k + 1) 0) (G (k + 1) 1) (G (k + 1) 2) (G (k + 1) 3) w5 (by decide) (by decide) (by omega) (hr5 0 (by omega)) (hr5 1 (by omega)) hnot).mono ?_
  rintro e w6 ⟨f', x1, x2, x3, rfl, hfac', hx1, hx2, hx3, hb6⟩
  have sf := factor_same hfac' hfac
  have s1 := interp_same sf hx1 hi1
  have s2 := interp_same sf hx2 hi2
  have s3 := interp_same sf hx3 hi3
  have hbel6 : Below w0.heap.size w0 w6 := ((hbel3.trans (hbel4.mono (by omega))).trans (hb5.mono (by omega))).trans (hb6.mono (by omega))
  have hz6 : w3.heap.size + 3 ≤ w6.heap.size := by have := hb6.size; omega
  have key : ∀ B j, B < w3.heap.size + 2 → w6.cell? ⟨B, j, none⟩ = ((w3.alloc (.cells #[.float .f64 t, .float .f64 r1, .float .f64 r2, .float .f64 r3] 28)).alloc (.cells #[.float .f64 (G (k + 1) 0), .float .f64 (G (k + 1) 1), .float .f64 (G (k + 1) 2), .float .f64 (G (k + 1) 3)] 27)).cell? ⟨B, j, none⟩ := fun B j hB =>
    (hb6.cell (p := ⟨B, j, none⟩) (by show B < w5.heap.size; omega)).trans (hb5.cell (p := ⟨B, j, none⟩) hB)
  have old : ∀ j v, w3.cell? ⟨w0.heap.size, j, none⟩ = some v → w6.cell? ⟨w0.heap.size, j, none⟩ = some v := by
    intro j v h
    rw [key _ _ (by omega), World.cell?_alloc_past _ _ _ (by simp; omega), World.cell?_alloc_past _ _ _ hz4]
    exact h
  have A0 := old 0 _ a0
  have A1 := old 1 _ a1
  have A2 := old 2 _ a2
  have A3 := old 3 _ a3
  have Q0 : w6.cell? ⟨w3.heap.size, 0, none⟩ = some (.float .f64 t) := by rw [key _ _ (by omega)]; simp
  have Q1 : w6.cell? ⟨w3.heap.size, 1, none⟩ = some (.float .f64 r1) := by rw [key _ _ (by omega)]; simp
  have Q2 : w6.cell? ⟨w3.heap.size, 2, none⟩ = some (.float .f64 r2) := by rw [key _ _ (by omega)]; simp
  have Q3 : w6.cell? ⟨w3.heap.size, 3, none⟩ = some (.float .f64 r3) := by rw [key _ _ (by omega)]; simp
  have B0 : w6.cell? ⟨w3.heap.size + 1, 0, none⟩ = some (.float .f64 (G (k + 1) 0)) := by rw [key _ _ (by omega), World.cell?_alloc_at _ _ _ _ (by simp)]; simp
  have B1 : w6.cell? ⟨w3.heap.size + 1, 1, none⟩ = some (.float .f64 (G (k + 1) 1)) := by rw [key _ _ (by omega), World.cell?_alloc_at _ _ _ _ (by simp)]; simp
  have B2 : w6.cell? ⟨w3.heap.size + 1, 2, none⟩ = some (.float .f64 (G (k + 1) 2)) := by rw [key _ _ (by omega), World.cell?_alloc_at _ _ _ _ (by simp)]; simp
  have B3 : w6.cell? ⟨w3.heap.size + 1, 3, none⟩ = some (.float .f64 (G (k + 1) 3)) := by rw [key _ _ (by omega), World.cell?_alloc_at _ _ _ _ (by simp)]; simp
  have hz7 : w0.heap.size < w6.heap.size := by omega
  have hz8 : w3.heap.size < w6.heap.size := by omega
  have hz9 : w3.heap.size + 1 < w6.heap.size := by omega
  clear key old hb5 hb6 hz5 hr5 hcell2 hbel4 hbel3 hz6 a0 a1 a2 a3 e0 e1 e2 e3 h5 h6 HC hx1 hx2 hx3 hfac' sf
  go_wp2_with fail
  refine (zsame_any t t (.inl rfl) _).mono ?_
  rintro e w7 ⟨rfl, rfl⟩
  go_wp2_with fail
  refine (zsame_any x1 r1 s1 _).mono ?_
  rintro e w7 ⟨rfl, rfl⟩
  go_wp2_with fail
  refine (zsame_any x2 r2 s2 _).mono ?_
  rintro e w7 ⟨rfl, rfl⟩
  go_wp2_with fail
  refine (zsame_any x3 r3 s3 _).mono ?_
  rintro e w7 ⟨rfl, rfl⟩
  go_wp2_with fail
  refine (zsmall_any (G k 0) _).mono ?_
  rintro e w7 ⟨⟨β, rfl, hβ1⟩, rfl⟩
  cases β
  · clear hβ1
    go_wp2
    go_ret
    exact ⟨rfl, hbel6.alloc (by omega) _⟩
  have S1 : Hid (Small (G k 0)) := hβ1 rfl
  clear hβ1
  go_wp2_with fail
  refine (zsmall_any (G (k + 1) 0) _).mono ?_
  rintro e w7 ⟨⟨β, rfl, hβ2⟩, rfl⟩
  cases β
  · clear hβ2
    go_wp2
    go_ret
    exact ⟨rfl, hbel6.alloc (by omega) _⟩
  have K1 := kept_of O1.out O2.out S1.out (hβ2 rfl) hfac hi1
  have K2 := kept_of O1.out O2.out S1.out (hβ2 rfl) hfac hi2
  have K3 := kept_of O1.out O2.out S1.out (hβ2 rfl) hfac hi3
  have H1 : Hid (Ieee.double.order (G k 1) (G (k + 1) 1) = some .eq → Finite (G k 1) → Ieee.double.order r1 (G k 1) = some .eq) := K1
  have H2 : Hid (Ieee.double.order (G k 2) (G (k + 1) 2) = some .eq → Finite (G k 2) → Ieee.double.order r2 (G k 2) = some .eq) := K2
  have H3 : Hid (Ieee.double.order (G k 3) (G (k + 1) 3) = some .eq → Finite (G k 3) → Ieee.double.order r3 (G k 3) = some .eq) := K3
  clear K1 K2 K3 hβ2
  go_wp2_with fail
  refine (zkept_any (G k 1) (G (k + 1) 1) r1 H1.out _).mono ?_
  rintro e w7 ⟨rfl, n1, rfl⟩
  go_wp2_with fail
  refine (zkept_any (G k 2) (G (k + 1) 2) r2 H2.out _).mono ?_
  rintro e w7 ⟨rfl, n2, rfl⟩
  go_wp2_with fail
  refine (zkept_any (G k 3) (G (k + 1) 3) r3 H3.out _).mono ?_
  rintro e w7 ⟨rfl, n3, rfl⟩
  go_wp2
  go_ret
  exact ⟨rfl, below_drewN (hbel6.alloc (by omega) _) _⟩
end Go.Proofs.Qxb6604250a
