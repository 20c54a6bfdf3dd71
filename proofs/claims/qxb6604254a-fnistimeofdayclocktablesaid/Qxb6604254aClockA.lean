import Derived.Test.Qxb6604254aPush
import Derived.Test.Qxb6604254aTod
namespace Go.Proofs.Qxb6604254a
open Go.RowKit

set_option maxHeartbeats 400000 in
theorem zztod_any (s : ByteArray) (w : World) (hs2 : (s.size : Int) ≤ 1048576) :
    Calls Try.prog 8 #[.string s] w fun e w' => e = .returned (.bool (todB s.size (bt s))) ∧ ∃ n, w' = w.drewN n := by
  go_enter Try.func8, Try.ntmps8
  go_wp2_with fail
  refine (tod_any s _ hs2).mono ?_
  rintro e w1 ⟨rfl, n, rfl⟩
  go_wp2
  go_ret
  exact ⟨rfl, _, rfl⟩

/-- Two decimal digits. -/
def D2 (v : Int) : Prop := 0 ≤ v ∧ v ≤ 99
def InClock (h mi se fd oh om : Int) : Prop := D2 h ∧ D2 mi ∧ D2 se ∧ D2 oh ∧ D2 om ∧ 0 ≤ fd ∧ fd ≤ 4096

set_option maxHeartbeats 400000 in
theorem clock_in (h mi se fd oh om : Int) (w : World) (hin : InClock h mi se fd oh om) :
    Calls Try.prog 10 #[.int .i64 h, .int .i64 mi, .int .i64 se, .int .i64 fd, .int .i64 oh, .int .i64 om] w fun e w' => e = .returned (.bool false) ∧ w' = w := by
  obtain ⟨⟨h1, h2⟩, ⟨h3, h4⟩, ⟨h5, h6⟩, ⟨h7, h8⟩, ⟨h9, h10⟩, h11, h12⟩ := hin
  go_enter Try.func10, Try.ntmps10
  go_wp2
  go_ret
  exact ⟨ret_boolT (by rw [decide_eq_false (by omega), decide_eq_false (by omega)]; rfl), rfl⟩

set_option maxHeartbeats 1000000 in
theorem clock_out (h mi se fd oh om : Int) (w : World) (hout : ¬ InClock h mi se fd oh om) :
    Calls Try.prog 10 #[.int .i64 h, .int .i64 mi, .int .i64 se, .int .i64 fd, .int .i64 oh, .int .i64 om] w fun e w' => e = .returned (.bool true) ∧ w' = w := by
  have HO : Hid (¬ InClock h mi se fd oh om) := hout
  clear hout
  by_cases c1 : h < 0
  · go_enter Try.func10, Try.ntmps10
    go_wp2
    go_ret
    exact ⟨rfl, rfl⟩
  by_cases c2 : 99 < h
  · go_enter Try.func10, Try.ntmps10
    go_wp2
    go_ret
    exact ⟨rfl, rfl⟩
  by_cases c3 : mi < 0
  · go_enter Try.func10, Try.ntmps10
    go_wp2
    go_ret
    exact ⟨rfl, rfl⟩
  by_cases c4 : 99 < mi
  · go_enter Try.func10, Try.ntmps10
    go_wp2
    go_ret
    exact ⟨rfl, rfl⟩
  by_cases c5 : se < 0
  · go_enter Try.func10, Try.ntmps10
    go_wp2
    go_ret
    exact ⟨rfl, rfl⟩
  by_cases c6 : 99 < se
  · go_enter Try.func10, Try.ntmps10
    go_wp2
    go_ret
    exact ⟨rfl, rfl⟩
  by_cases c7 : oh < 0
  · go_enter Try.func10, Try.ntmps10
    go_wp2
    go_ret
    exact ⟨rfl, rfl⟩
  by_cases c8 : 99 < oh
  · go_enter Try.func10, Try.ntmps10
    go_wp2
    go_ret
    exact ⟨rfl, rfl⟩
  by_cases c9 : om < 0
  · go_enter Try.func10, Try.ntmps10
    go_wp2
    go_ret
    exact ⟨rfl, rfl⟩
  by_cases c10 : 99 < om
  · go_enter Try.func10, Try.ntmps10
    go_wp2
    go_ret
    exact ⟨rfl, rfl⟩
  by_cases c11 : fd < 0
  · go_enter Try.func10, Try.ntmps10
    go_wp2
    go_ret
    exact ⟨rfl, rfl⟩
  by_cases c12 : 4096 < fd
  · go_enter Try.func10, Try.ntmps10
    go_wp2
    go_ret
    exact ⟨rfl, rfl⟩
  · exact absurd ⟨⟨by omega, by omega⟩, ⟨by omega, by omega⟩, ⟨by omega, by omega⟩, ⟨by omega, by omega⟩, ⟨by omega, by omega⟩, by omega, by omega⟩ HO.out

/-- The text that a list of bytes makes. -/
def strOf (bs : List Int) : ByteArray := ⟨(bs.map fun b => UInt8.ofNat b.toNat).toArray⟩

theorem strOf_size (bs : List Int) : (strOf bs).size = bs.length := by
  show (strOf bs).data.size = _
  simp [strOf]

def Bytes (bs : List Int) : Prop := ∀ b ∈ bs, 0 ≤ b ∧ b ≤ 255

theorem byte_back (b : Int) (h : 0 ≤ b ∧ b ≤ 255) : ((UInt8.ofNat b.toNat).toNat : Int) = b := by
  have : (UInt8.ofNat b.toNat).toNat = b.toNat % 256 := rfl
  rw [this]
  omega

theorem bt_strOf (bs : List Int) (hb : Bytes bs) : bt (strOf bs) = fun i => bs.getD i 0 := by
  funext i
  unfold bt strOf
  simp only [List.getD_eq_getElem?_getD, List.getElem?_map]
  cases h : bs[i]? with
  | none => rfl
  | some b => exact byte_back b (hb b (List.mem_of_getElem? h))

theorem conv_buf {w0 w : World} {g n cap : Nat} {bs : List Int} (h : Buf w0 w g n cap bs) (hb : Bytes bs) :
    (convert 24 9 (.slice (some ⟨g, 0, none⟩) n cap)).run Try.prog w = .ok (.string (strOf bs)) w := by
  have hlen : n = (bs.map fun b => UInt8.ofNat b.toNat).length := by
    have := h.1.1
    simp at this
    simp [this]
  have key := run_convert_bytes_back (P := Try.prog) w 24 9 5 ⟨g, 0, none⟩ cap (bs.map fun b => UInt8.ofNat b.toNat) Try.underlying24 Try.underlying5 Try.underlying9 (fun j hj => by
    have hj' : j < bs.length := by simpa using hj
    have hc := h.1.cellAt j (by rw [hlen]; simpa using hj')
    have e : (⟨g, 0, none⟩ : Addr).add j = ⟨g, j, none⟩ := by unfold Addr.add; split <;> simp_all
    rw [e, hc]
    simp only [List.getElem?_map, List.getElem?_eq_getElem hj', Option.map_some, List.getElem_map]
    rw [byte_back _ (hb _ (List.getElem_mem hj'))])
  rw [← hlen] at key
  exact key

theorem mk_rule (N : Nat) (hN : N ≤ 4096) (w : World) : (Instr.makeSlice 24 (.int .i64 0) (.int .i64 (16 + (N : Int)))).run Try.prog w = .ok (.slice (some ⟨w.heap.size, 0, none⟩) 0 (16 + N)) (w.alloc (.cells (madeCells #[.int .u8 0] (16 + N)) 5)) := by
  obtain ⟨i, hi, hz0, hz1, hz2⟩ := info_parts Try.info5
  have h := run_make (P := Try.prog) w 24 5 i (.int .u8 0) Try.underlying24 hi hz0 .i64 .i64 0 (16 + (N : Int)) (by omega) (by omega) (by rw [hz2]; omega) (by omega)
  have e : (16 + (N : Int)).toNat = 16 + N := by omega
  rw [e, hz1] at h
  simpa [Value.cells] using h

theorem buf_start (w : World) (N : Nat) (hN : N ≤ 4096) : Buf w (w.alloc (.cells (madeCells #[.int .u8 0] (16 + N)) 5)) w.heap.size 0 (16 + N) [] :=
  ⟨World.ownsRow_made w _ _ (Nat.le_refl _) (by unfold maxLen; omega) (by rw [size_madeCells]; omega), (Below.refl _ _).alloc (Nat.le_refl _) _⟩
end Go.Proofs.Qxb6604254a
