import Derived.Test.Qxb6613227aDoorW1
import Derived.Test.Qxb6613227aDoorBuf
namespace Go.Proofs.Qxb6613227aDoor
open Go.RowKit
theorem wp_buf {ops : Array Oper} {rest : List Oper} {o : Oper} {a : Act} {Q : Exit → Act → World → Prop} (hgd : o.guard = none) (sl x : Operand)
    (ho : o.op = .call { callee := .builtin .append, args := #[sl, x], argTypes := #[28, 9] }) (W : World) (v : Value) (l : List UInt8) (w : World) (hs : a.eval sl = v) (hb : Buf W v l w) (s : ByteArray) (hx : a.eval x = .string s)
    (hl : l.length + s.size ≤ 140737488355328) (h : ∀ v' w', Buf W v' (l ++ s.data.toList) w' → wpList Tryd.prog ops Q rest (a.put o.dst v') w') : wpList Tryd.prog ops Q (o :: rest) a w := by
  refine wpList_plain hgd fun K hK => ?_
  obtain ⟨v', w', hr, h2⟩ := hb.append s hl o.type
  unfold Oper.wp execOp
  simp only [ho, resolve, invoke, builtin, Sem.run_bind, Sem.run_pure, Result.andThen_ok, List.map_toArray, List.map_cons, List.map_nil, hs, hx, hr]
  exact hK _ _ (h v' w' h2)
theorem wp_start {ops : Array Oper} {rest : List Oper} {o : Oper} {a : Act} {Q : Exit → Act → World → Prop} (hgd : o.guard = none) (x : Operand) (ho : o.op = .convert 9 28 x) (w : World) (s : ByteArray) (hx : a.eval x = .string s)
    (h : ∀ v' w', Buf w v' s.data.toList w' → wpList Tryd.prog ops Q rest (a.put o.dst v') w') : wpList Tryd.prog ops Q (o :: rest) a w := by
  refine wpList_plain hgd fun K hK => ?_
  obtain ⟨v', w', hr, h2⟩ := Buf.start w s
  unfold Oper.wp execOp
  simp only [ho, hx, hr, Sem.run_bind, Sem.run_pure, Result.andThen_ok]
  exact hK _ _ (h v' w' h2)
theorem Buf.base {W W' : World} {v : Value} {l : List UInt8} {w : World} (h : Buf W' v l w) (hb : Below W.heap.size W W') : Buf W v l w := by
  obtain ⟨g, cap, h1, h2, h3, h4, h5, h6⟩ := h
  exact ⟨g, cap, h1, Nat.le_trans hb.size h2, h3, h4, h5, hb.trans (h6.mono hb.size)⟩
theorem Buf.belowW {W : World} {v : Value} {l : List UInt8} {w : World} (h : Buf W v l w) : Below W.heap.size W w := by
  obtain ⟨g, cap, h1, h2, h3, h4, h5, h6⟩ := h
  exact h6
end Go.Proofs.Qxb6613227aDoor
