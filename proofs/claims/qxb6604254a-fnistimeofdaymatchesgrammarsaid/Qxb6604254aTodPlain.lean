/-
  THE PLAIN FUNCTION that 'isTimeOfDay' computes, over a length and the bytes. No program in sight.
-/
namespace Go.Proofs.Qxb6604254a

/-- Two digits that stand for a number of at most 'most'. -/
def tdB (x y most : Int) : Bool := decide (48 ≤ x ∧ x ≤ 57 ∧ 48 ≤ y ∧ y ≤ 57 ∧ (x - 48) * 10 + (y - 48) ≤ most)

/-- A byte of a text, as a number; 0 behind its end. -/
def bt (s : ByteArray) (i : Nat) : Int := (((s.data.toList.getD i 0).toNat : Nat) : Int)

theorem bt_bd (s : ByteArray) (i : Nat) : 0 ≤ bt s i ∧ bt s i ≤ 255 := by
  unfold bt
  have := (s.data.toList.getD i 0).toNat_lt
  omega

theorem bt_get (s : ByteArray) (i : Nat) (h : i < s.size) : ((s[i]'h).toNat : Int) = bt s i := by
  unfold bt
  have h' : i < s.data.toList.length := by simpa using h
  rw [List.getD_eq_getElem?_getD, List.getElem?_eq_getElem h']
  rfl

theorem extract_size (s : ByteArray) (a b : Nat) (h : a ≤ b) (hb : b ≤ s.size) : (s.extract a b).size = b - a := by
  rw [ByteArray.size_extract]
  omega

theorem extract_bt (s : ByteArray) (a b i : Nat) (hi : a + i < b) (hb : b ≤ s.size) : bt (s.extract a b) i = bt s (a + i) := by
  have h1 : i < (s.extract a b).size := by rw [extract_size s a b (by omega) hb]; omega
  rw [← bt_get _ i h1, ← bt_get s (a + i) (by omega)]
  congr 2
  exact ByteArray.getElem_extract _

theorem bt_far (s : ByteArray) (i : Nat) (h : s.size ≤ i) : bt s i = 0 := by
  unfold bt
  have h' : s.data.toList.length ≤ i := by simpa using h
  rw [List.getD_eq_getElem?_getD, List.getElem?_eq_none h']
  rfl

/-- The bytes of what is left behind place a. -/
theorem bt_rest (s : ByteArray) (a : Nat) (ha : a ≤ s.size) : bt (s.extract a s.size) = fun i => bt s (a + i) := by
  funext i
  by_cases h : a + i < s.size
  · exact extract_bt s a s.size i h (Nat.le_refl _)
  · rw [bt_far s (a + i) (by omega), bt_far _ i (by rw [extract_size s a s.size ha (Nat.le_refl _)]; omega)]

/-- Digits from place k on: where they end. -/
def runD (d : Nat → Int) : Nat → Nat → Nat
  | 0, k => k
  | f + 1, k => if 48 ≤ d k ∧ d k ≤ 57 then runD d f (k + 1) else k

theorem run_step (d : Nat → Int) (m k : Nat) (h : k < m) (h1 : 48 ≤ d k) (h2 : d k ≤ 57) : runD d (m - k) k = runD d (m - (k + 1)) (k + 1) := by
  obtain ⟨f, hf⟩ : ∃ f, m - k = f + 1 := ⟨m - k - 1, by omega⟩
  rw [hf, show m - (k + 1) = f from by omega]
  show (if 48 ≤ d k ∧ d k ≤ 57 then runD d f (k + 1) else k) = _
  rw [if_pos ⟨h1, h2⟩]

theorem run_stop (d : Nat → Int) (m k : Nat) (hk : k ≤ m) (h : ¬ (k < m ∧ 48 ≤ d k ∧ d k ≤ 57)) : runD d (m - k) k = k := by
  by_cases e : k < m
  · obtain ⟨f, hf⟩ : ∃ f, m - k = f + 1 := ⟨m - k - 1, by omega⟩
    rw [hf]
    show (if 48 ≤ d k ∧ d k ≤ 57 then runD d f (k + 1) else k) = _
    rw [if_neg (fun c => h ⟨e, c.1, c.2⟩)]
  · rw [show m - k = 0 from by omega]
    rfl

/-- The zone. -/
def zoneB (m : Nat) (d : Nat → Int) : Bool :=
  decide (m = 1 ∧ (d 0 = 90 ∨ d 0 = 122)) || (decide (m = 6 ∧ (d 0 = 43 ∨ d 0 = 45)) && (tdB (d 1) (d 2) 23 && (decide (d 3 = 58) && tdB (d 4) (d 5) 59)))

/-- What lies behind the clock. -/
def tailB (m : Nat) (d : Nat → Int) : Bool :=
  if d 0 = 46 then (if runD d (m - 1) 1 = 1 then false else zoneB (m - runD d (m - 1) 1) (fun i => d (runD d (m - 1) 1 + i))) else zoneB m d

/-- The clock. -/
def clockB (c : Nat → Int) : Bool := decide (c 0 = 84 ∨ c 0 = 116) && (tdB (c 1) (c 2) 23 && (decide (c 3 = 58) && (tdB (c 4) (c 5) 59 && (decide (c 6 = 58) && tdB (c 7) (c 8) 60))))

def todB (n : Nat) (c : Nat → Int) : Bool := decide (9 < n) && (clockB c && tailB (n - 9) (fun i => c (9 + i)))
end Go.Proofs.Qxb6604254a
