import Derived.Test.Qxb6604254aTwo
namespace Go.Proofs.Qxb6604254a
open Go.RowKit

theorem Try.info5 : (Try.prog.info? 5).map (fun i => (i.zero, i.size, i.bytes)) = some (some (.int .u8 0), 1, 1) := by kernel_rfl

/-- The buffer: a row of the call's own, n bytes in it, room for cap; nothing that was there at w0 has turned. -/
def Buf (w0 w : World) (g n cap : Nat) (bs : List Int) : Prop :=
  w.ownsRow w0.heap.size 5 1 (.slice (some ⟨g, 0, none⟩) n cap) n (bs.map fun b => Value.int .u8 b) ∧ Below w0.heap.size w0 w

theorem Buf.alloc {w0 w : World} {g n cap : Nat} {bs : List Int} (h : Buf w0 w g n cap bs) (o : Obj) : Buf w0 (w.alloc o) g n cap bs :=
  ⟨h.1.alloc o, h.2.alloc h.2.size o⟩

/-- One byte appended where there is room. -/
theorem wpList_push {w : World} {ops : Array Oper} {rest : List Oper} {o : Oper} {a : Act} {Q : Exit → Act → World → Prop}
    (hg : o.guard = none) (s x : Operand) (hop : o.op = Op.call { callee := Callee.builtin Builtin.append, args := #[s, x], argTypes := #[24, 24] })
    (w0 : World) (g n cap : Nat) (bs : List Int) (hs : a.eval s = .slice (some ⟨g, 0, none⟩) n cap) (hbuf : Buf w0 w g n cap bs) (b : Nat) (v : Int) (hx : a.eval x = .slice (some ⟨b, 0, none⟩) 1 1)
    (hc : w.cell? ⟨b, 0, none⟩ = some (.int .u8 v)) (b1 : n + 1 ≤ cap)
    (hK : ∀ w', Buf w0 w' g (n + 1) cap (bs ++ [v]) → wpList Try.prog ops Q rest (a.put o.dst (.slice (some ⟨g, 0, none⟩) (n + 1) cap)) w') :
    wpList Try.prog ops Q (o :: rest) a w := by
  obtain ⟨i, hi, hz0, hz1, hz2⟩ := info_parts Try.info5
  refine wpList_append_fits w hg s x 24 hop w0.heap.size 5 i 1 Try.underlying24 hi hz1 g n cap _ hs hbuf.1 ⟨b, 0, none⟩ 1 1 [.int .u8 v] hx rfl (fun j u hj => ?_) (fun u hu => ?_) b1 (fun w' h1 h2 => ?_)
  · match j, hj with
    | 0, hj =>
      simp at hj
      subst hj
      simpa [Addr.add] using hc
    | j + 1, hj => simp at hj
  · simp at hu
    subst hu
    rfl
  · have hlt := (hbuf.1.lt g rfl).1
    refine hK w' ⟨by simpa using h1, hbuf.2.grown h2 hbuf.2.size (fun k hk => ?_)⟩
    cases hk
    exact hlt

set_option maxHeartbeats 400000 in
theorem append2_any (w0 : World) (g n cap : Nat) (bs : List Int) (v : Int) (w : World) (hv0 : 0 ≤ v) (hv1 : v ≤ 99) (hcap : n + 2 ≤ cap) (hb : Buf w0 w g n cap bs) :
    Calls Try.prog 11 #[.slice (some ⟨g, 0, none⟩) n cap, .int .i64 v] w fun e w' => e = .returned (.slice (some ⟨g, 0, none⟩) (n + 2) cap) ∧ Buf w0 w' g (n + 2) cap (bs ++ [48 + v / 10, 48 + v % 10]) := by
  go_enter Try.func11, Try.ntmps11
  go_wp2_with (at_builtin; refine wpList_push rfl _ _ rfl w0 g _ cap _ rfl (Buf.alloc (by assumption) _) _ _ rfl (by simp; rfl) (by omega) ?_; intro wN hN)
  go_ret
  exact ⟨rfl, by simpa using hN⟩
end Go.Proofs.Qxb6604254a
