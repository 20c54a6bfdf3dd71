/-
  THE PLAIN LAW of the clock table: what the plain function says of a time written out. No program in sight.
-/
import Derived.Test.Qxb6604254aTodPlain
namespace Go.Proofs.Qxb6604254a

/-- The clock written out. -/
def hd (cT h mi se : Int) : List Int := [cT, 48 + h / 10, 48 + h % 10, 58, 48 + mi / 10, 48 + mi % 10, 58, 48 + se / 10, 48 + se % 10]

/-- The digits of the fraction. -/
def digs (n : Nat) : List Int := (List.range n).map fun (j : Nat) => 57 - (j : Int) % 10

theorem digs_succ (n : Nat) : digs (n + 1) = digs n ++ [57 - (n : Int) % 10] := by
  unfold digs
  rw [List.range_succ, List.map_append]
  rfl

theorem digs_length (n : Nat) : (digs n).length = n := by simp [digs]

theorem digs_get (n i : Nat) (h : i < n) : (digs n).getD i 0 = 57 - (i : Int) % 10 := by
  simp [digs, h]

theorem td_two (v most : Int) (h0 : 0 ≤ v) (h1 : v ≤ 99) : tdB (48 + v / 10) (48 + v % 10) most = decide (v ≤ most) := by
  unfold tdB
  rw [decide_eq_decide]
  omega

theorem run_to (d : Nat → Int) (j : Nat) : ∀ (f k : Nat), (∀ i, k ≤ i → i < k + j → 48 ≤ d i ∧ d i ≤ 57) → ¬ (48 ≤ d (k + j) ∧ d (k + j) ≤ 57) → j ≤ f → runD d f k = k + j := by
  induction j with
  | zero =>
    intro f k _ hs _
    cases f with
    | zero => rfl
    | succ f =>
      have hs' : ¬ (48 ≤ d k ∧ d k ≤ 57) := hs
      show (if 48 ≤ d k ∧ d k ≤ 57 then runD d f (k + 1) else k) = _
      rw [if_neg hs']
      rfl
  | succ j ih =>
    intro f k hd hs hf
    obtain ⟨f, rfl⟩ : ∃ f', f = f' + 1 := ⟨f - 1, by omega⟩
    show (if 48 ≤ d k ∧ d k ≤ 57 then runD d f (k + 1) else k) = _
    rw [if_pos (hd k (Nat.le_refl _) (by omega)), ih f (k + 1) (fun i h1 h2 => hd i (by omega) (by omega)) (by rw [show k + 1 + j = k + (j + 1) from by omega]; exact hs) (by omega)]
    omega

theorem getD_app_left (a b : List Int) (i : Nat) (h : i < a.length) : (a ++ b).getD i 0 = a.getD i 0 := by
  simp [List.getD_eq_getElem?_getD, List.getElem?_append_left h]
theorem getD_app_right (a b : List Int) (i : Nat) : (a ++ b).getD (a.length + i) 0 = b.getD i 0 := by
  simp [List.getD_eq_getElem?_getD, List.getElem?_append_right]

/-- The clock ahead of whatever tail. -/
theorem tod_head (cT h mi se : Int) (t : List Int) (hT : cT = 84 ∨ cT = 116) (h0 : 0 ≤ h) (h1 : h ≤ 99) (m0 : 0 ≤ mi) (m1 : mi ≤ 99) (s0 : 0 ≤ se) (s1 : se ≤ 99) (ht : t ≠ []) :
    todB (hd cT h mi se ++ t).length (fun i => (hd cT h mi se ++ t).getD i 0) = ((decide (h ≤ 23) && (decide (mi ≤ 59) && decide (se ≤ 60))) && tailB t.length (fun i => t.getD i 0)) := by
  have hl : (hd cT h mi se).length = 9 := rfl
  have ht' : 1 ≤ t.length := by
    cases t with
    | nil => exact absurd rfl ht
    | cons _ _ => simp
  have e1 : decide (9 < (hd cT h mi se ++ t).length) = true := by rw [List.length_append, hl]; exact decide_eq_true (by omega)
  have e2 : (fun i => (hd cT h mi se ++ t).getD (9 + i) 0) = fun i => t.getD i 0 := by
    funext i
    exact getD_app_right (hd cT h mi se) t i
  have e3 : (hd cT h mi se ++ t).length - 9 = t.length := by rw [List.length_append, hl]; omega
  have e4 : clockB (fun i => (hd cT h mi se ++ t).getD i 0) = (decide (h ≤ 23) && (decide (mi ≤ 59) && decide (se ≤ 60))) := by
    show (decide (cT = 84 ∨ cT = 116) && (tdB (48 + h / 10) (48 + h % 10) 23 && (decide ((58 : Int) = 58) && (tdB (48 + mi / 10) (48 + mi % 10) 59 && (decide ((58 : Int) = 58) && tdB (48 + se / 10) (48 + se % 10) 60))))) = _
    rw [decide_eq_true hT, td_two h 23 h0 h1, td_two mi 59 m0 m1, td_two se 60 s0 s1]
    simp
  show (decide (9 < (hd cT h mi se ++ t).length) && (clockB (fun i => (hd cT h mi se ++ t).getD i 0) && tailB ((hd cT h mi se ++ t).length - 9) (fun i => (hd cT h mi se ++ t).getD (9 + i) 0))) = _
  rw [e1, e2, e3, e4]
  simp

/-- No fraction. -/
theorem tail_plain (z : List Int) (h : z.getD 0 0 ≠ 46) : tailB z.length (fun i => z.getD i 0) = zoneB z.length (fun i => z.getD i 0) := by
  unfold tailB
  rw [if_neg h]

/-- A fraction of N digits, N at least 1. -/
theorem tail_frac (N : Nat) (z : List Int) (hN : 1 ≤ N) (hz : ¬ (48 ≤ z.getD 0 0 ∧ z.getD 0 0 ≤ 57)) : tailB (46 :: (digs N ++ z)).length (fun i => (46 :: (digs N ++ z)).getD i 0) = zoneB z.length (fun i => z.getD i 0) := by
  have hl := digs_length N
  have hrun : runD (fun i => (46 :: (digs N ++ z)).getD i 0) ((46 :: (digs N ++ z)).length - 1) 1 = 1 + N := by
    refine run_to _ N _ 1 (fun i h1 h2 => ?_) ?_ ?_
    · obtain ⟨j, rfl⟩ : ∃ j, i = j + 1 := ⟨i - 1, by omega⟩
      show 48 ≤ (digs N ++ z).getD j 0 ∧ (digs N ++ z).getD j 0 ≤ 57
      rw [getD_app_left _ _ _ (by omega), digs_get N j (by omega)]
      omega
    · show ¬ (48 ≤ (46 :: (digs N ++ z)).getD (1 + N) 0 ∧ (46 :: (digs N ++ z)).getD (1 + N) 0 ≤ 57)
      rw [show 1 + N = ((digs N).length + 0) + 1 from by omega]
      show ¬ (48 ≤ (digs N ++ z).getD ((digs N).length + 0) 0 ∧ (digs N ++ z).getD ((digs N).length + 0) 0 ≤ 57)
      rw [getD_app_right]
      exact hz
    · simp [hl]
  unfold tailB
  rw [if_pos (show (46 :: (digs N ++ z)).getD 0 0 = 46 from rfl), hrun, if_neg (by omega)]
  have e1 : (46 :: (digs N ++ z)).length - (1 + N) = z.length := by simp [hl]; omega
  have e2 : (fun i => (fun i => (46 :: (digs N ++ z)).getD i 0) (1 + N + i)) = fun i => z.getD i 0 := by
    funext i
    show (46 :: (digs N ++ z)).getD (1 + N + i) 0 = _
    rw [show 1 + N + i = ((digs N).length + i) + 1 from by omega]
    exact getD_app_right (digs N) z i
  rw [e1, e2]

theorem zone_off (sg oh om : Int) (hs : sg = 43 ∨ sg = 45) (h0 : 0 ≤ oh) (h1 : oh ≤ 99) (m0 : 0 ≤ om) (m1 : om ≤ 99) :
    zoneB [sg, 48 + oh / 10, 48 + oh % 10, 58, 48 + om / 10, 48 + om % 10].length (fun i => [sg, 48 + oh / 10, 48 + oh % 10, 58, 48 + om / 10, 48 + om % 10].getD i 0) = (decide (oh ≤ 23) && decide (om ≤ 59)) := by
  have e1 := td_two oh 23 h0 h1
  have e2 := td_two om 59 m0 m1
  unfold zoneB
  simp only [List.length_cons, List.length_nil, List.getD_cons_zero, List.getD_cons_succ]
  rw [e1, e2]
  simp [hs]
theorem zone_Zl : zoneB ([90] : List Int).length (fun i => ([90] : List Int).getD i 0) = true := by decide
theorem zone_zl : zoneB ([122] : List Int).length (fun i => ([122] : List Int).getD i 0) = true := by decide
end Go.Proofs.Qxb6604254a
