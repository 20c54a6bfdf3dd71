import Derived.Test.Qxb6604254aClockA
import Derived.Test.Qxb6604254aClockPlain
namespace Go.Proofs.Qxb6604254a
open Go.RowKit

/-- The buffer, its bytes in range. -/
def BufB (w0 w : World) (g n cap : Nat) (bs : List Int) : Prop := Buf w0 w g n cap bs ∧ Bytes bs
/-- What 'string(b)' gives there. -/
def Conv (w : World) (g n cap : Nat) (bs : List Int) : Prop := (convert 24 9 (.slice (some ⟨g, 0, none⟩) n cap)).run Try.prog w = .ok (.string (strOf bs)) w

theorem BufB.len {w0 w : World} {g n cap : Nat} {bs : List Int} (h : BufB w0 w g n cap bs) : bs.length = n := by
  have := h.1.1.1
  simpa using this
theorem BufB.conv {w0 w : World} {g n cap : Nat} {bs : List Int} (h : BufB w0 w g n cap bs) : Conv w g n cap bs := conv_buf h.1 h.2
theorem BufB.alloc {w0 w : World} {g n cap : Nat} {bs : List Int} (h : BufB w0 w g n cap bs) (o : Obj) : BufB w0 (w.alloc o) g n cap bs := ⟨h.1.alloc o, h.2⟩
theorem BufB.start (w : World) (N : Nat) (hN : N ≤ 4096) : BufB w (w.alloc (.cells (madeCells #[.int .u8 0] (16 + N)) 5)) w.heap.size 0 (16 + N) [] := ⟨buf_start w N hN, fun b hb => by simp at hb⟩
theorem BufB.to {w0 w : World} {g n cap : Nat} {bs bs' : List Int} (h : BufB w0 w g n cap bs) (e : bs = bs') : BufB w0 w g n cap bs' := e ▸ h

theorem push {w : World} {ops : Array Oper} {rest : List Oper} {o : Oper} {a : Act} {Q : Exit → Act → World → Prop}
    (hg : o.guard = none) (s x : Operand) (hop : o.op = Op.call { callee := Callee.builtin Builtin.append, args := #[s, x], argTypes := #[24, 24] })
    (w0 : World) (g n cap : Nat) (bs : List Int) (hs : a.eval s = .slice (some ⟨g, 0, none⟩) n cap) (hbuf : BufB w0 w g n cap bs) (b : Nat) (v : Int) (hx : a.eval x = .slice (some ⟨b, 0, none⟩) 1 1)
    (hc : w.cell? ⟨b, 0, none⟩ = some (.int .u8 v)) (hv : 0 ≤ v ∧ v ≤ 255) (b1 : n + 1 ≤ cap)
    (hK : ∀ w', BufB w0 w' g (n + 1) cap (bs ++ [v]) → wpList Try.prog ops Q rest (a.put o.dst (.slice (some ⟨g, 0, none⟩) (n + 1) cap)) w') :
    wpList Try.prog ops Q (o :: rest) a w := by
  refine wpList_push hg s x hop w0 g n cap bs hs hbuf.1 b v hx hc b1 (fun w' h => hK w' ⟨h, fun c hc => ?_⟩)
  rcases List.mem_append.1 hc with hc | hc
  · exact hbuf.2 c hc
  · simp at hc
    subst hc
    exact hv

theorem push2 (w0 : World) (g n cap : Nat) (bs : List Int) (v : Int) (w : World) (hv0 : 0 ≤ v) (hv1 : v ≤ 99) (hcap : n + 2 ≤ cap) (hb : BufB w0 w g n cap bs) :
    Calls Try.prog 11 #[.slice (some ⟨g, 0, none⟩) n cap, .int .i64 v] w fun e w' => e = .returned (.slice (some ⟨g, 0, none⟩) (n + 2) cap) ∧ BufB w0 w' g (n + 2) cap (bs ++ [48 + v / 10, 48 + v % 10]) := by
  refine (append2_any w0 g n cap bs v w hv0 hv1 hcap hb.1).mono ?_
  rintro e w' ⟨h1, h2⟩
  refine ⟨h1, h2, fun c hc => ?_⟩
  rcases List.mem_append.1 hc with hc | hc
  · exact hb.2 c hc
  · simp at hc
    rcases hc with rfl | rfl <;> omega

theorem zztod_eq (bs : List Int) (X : Bool) (w : World) (hb : Bytes bs) (hl : bs.length ≤ 1048576) (HX : Hid (todB bs.length (fun i => bs.getD i 0) = X)) :
    Calls Try.prog 8 #[.string (strOf bs)] w fun e w' => e = .returned (.bool X) ∧ ∃ n, w' = w.drewN n := by
  have h := zztod_any (strOf bs) w (by rw [strOf_size]; omega)
  rw [bt_strOf bs hb, strOf_size, HX.out] at h
  exact h

end Go.Proofs.Qxb6604254a
