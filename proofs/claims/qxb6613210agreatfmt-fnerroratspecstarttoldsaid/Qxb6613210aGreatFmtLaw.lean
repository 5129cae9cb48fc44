import Derived.Lib.BufSteps
import Derived.Lib.Quote
import Derived.Deep.RegionLaw
namespace Go.Proofs.Qxb6613210aGreatFmt
open Go.RowKit Go.Lib
section
variable {P : Program}

theorem intCells_at (e : TypeId) (w0 : World) (cs : List Int) (j : Nat) (u : Value) (hj : (intCells cs)[j]? = some u) : (w0.alloc (.cells (intCells cs).toArray e)).cell? ((⟨w0.heap.size, 0, none⟩ : Addr).add j) = some u := by
  have : (⟨w0.heap.size, 0, none⟩ : Addr).add j = ⟨w0.heap.size, j, none⟩ := by
    simp only [Addr.add]; split <;> simp_all
  rw [this, World.cell?_alloc_new]
  simpa using hj

/-- 'buf = append(buf, b0, b1, ..)': the new bytes lie in the block that the statement has just laid. -/
theorem wp_append_bytes {o : Oper} {a : Act} {K : Act → World → Prop} {Q : Exit → Act → World → Prop} (s x : Operand) (t : TypeId)
    (ho : o.op = .call { callee := .builtin .append, args := #[s, x], argTypes := #[t, t] })
    (B : Nat) (e : TypeId) (i : TypeInfo) (ht : P.underlying t = some (.slice e)) (hi : P.info? e = some i) (hz : i.zero = some (.int .u8 0)) (hsize : i.size = 1) (hby : i.bytes = 1)
    (v : Value) (n : Nat) (xs : List Value) (hs : a.eval s = v) (W0 w0 : World) (cs : List Int) (hb : OwnBuf B e v n xs W0 w0)
    (hx : a.eval x = .slice (some ⟨w0.heap.size, 0, none⟩) cs.length cs.length) (hlen : n + cs.length ≤ 140737488355328)
    (h : ∀ v' w', OwnBuf B e v' (n + cs.length) (xs ++ intCells cs) W0 w' → K (a.put o.dst v') w') : o.wp P a (w0.alloc (.cells (intCells cs).toArray e)) K Q := by
  have hb' := hb.alloc (.cells (intCells cs).toArray e)
  obtain ⟨v', w', hr, h2, h3, h4⟩ := run_append_ownF (P := P) (w0.alloc (.cells (intCells cs).toArray e)) B t o.type e i (.int .u8 0) 1 1 ht hi hz hsize hby rfl (by decide) v n xs hb'.1 ⟨w0.heap.size, 0, none⟩ cs.length cs.length (intCells cs) (by simp [intCells]) (fun j u hj => intCells_at e w0 cs j u hj) (by
    intro u hu; simp [intCells] at hu; obtain ⟨x, _, rfl⟩ := hu; rfl) (by unfold maxLen; omega) (by omega) hb'.2.2
  unfold Oper.wp execOp
  simp only [ho, resolve, invoke, builtin, Sem.run_bind, Sem.run_pure, Result.andThen_ok, List.map_toArray, List.map_cons, List.map_nil, hs, hx, hr]
  exact h v' w' (hb'.grown h2 h3)

theorem wpList_append_bytes {ops : Array Oper} {rest : List Oper} {o : Oper} {a : Act} {Q : Exit → Act → World → Prop} (hgd : o.guard = none) (s x : Operand) (t : TypeId)
    (ho : o.op = .call { callee := .builtin .append, args := #[s, x], argTypes := #[t, t] })
    (B : Nat) (e : TypeId) (i : TypeInfo) (ht : P.underlying t = some (.slice e)) (hi : P.info? e = some i) (hz : i.zero = some (.int .u8 0)) (hsize : i.size = 1) (hby : i.bytes = 1)
    (v : Value) (n : Nat) (xs : List Value) (hs : a.eval s = v) (W0 w0 : World) (cs : List Int) (hb : OwnBuf B e v n xs W0 w0)
    (hx : a.eval x = .slice (some ⟨w0.heap.size, 0, none⟩) cs.length cs.length) (hlen : n + cs.length ≤ 140737488355328)
    (h : ∀ v' w', OwnBuf B e v' (n + cs.length) (xs ++ intCells cs) W0 w' → wpList P ops Q rest (a.put o.dst v') w') : wpList P ops Q (o :: rest) a (w0.alloc (.cells (intCells cs).toArray e)) :=
  wpList_plain hgd fun _ hK => wp_append_bytes s x t ho B e i ht hi hz hsize hby v n xs hs W0 w0 cs hb hx hlen fun v' w' h' => hK _ _ (h v' w' h')

/-- The same as one step of a region that draws. -/
theorem step_append_bytes {ops : Array Oper} {o : Oper} {a : Act} {K : Act → World → Prop} {Q : Exit → Act → World → Prop} {E : Prop}
    (hg : o.guard = none) (s x : Operand) (t : TypeId)
    (ho : o.op = .call { callee := .builtin .append, args := #[s, x], argTypes := #[t, t] })
    (B : Nat) (e : TypeId) (i : TypeInfo) (ht : P.underlying t = some (.slice e)) (hi : P.info? e = some i) (hz : i.zero = some (.int .u8 0)) (hsize : i.size = 1) (hby : i.bytes = 1)
    (v : Value) (n : Nat) (xs : List Value) (hs : a.eval s = v) (W0 w0 : World) (cs : List Int) (hb : OwnBuf B e v n xs W0 w0)
    (hx : a.eval x = .slice (some ⟨w0.heap.size, 0, none⟩) cs.length cs.length) (hlen : n + cs.length ≤ 140737488355328)
    (wx : World) (hwx : wx = w0.alloc (.cells (intCells cs).toArray e))
    (h : ∀ v' w', OwnBuf B e v' (n + cs.length) (xs ++ intCells cs) W0 w' → K (a.put o.dst v') w') :
    if Region.wanted o (yielded ops a.tmps) = true then Oper.wp P o a wx K Q else E := by
  have hw : Region.wanted o (yielded ops a.tmps) = true := by simp [Region.wanted, hg]
  rw [if_pos hw, hwx]
  exact wp_append_bytes s x t ho B e i ht hi hz hsize hby v n xs hs W0 w0 cs hb hx hlen h
end
end Go.Proofs.Qxb6613210aGreatFmt
