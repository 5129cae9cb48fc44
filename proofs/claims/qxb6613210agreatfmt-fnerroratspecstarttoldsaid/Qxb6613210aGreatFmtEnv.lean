import Derived.Test.Qxb6613210aGreatFmtW13
import Derived.Test.Qxb6613210aGreatFmtW9
import Derived.Test.Qxb6613210aGreatFmtPlain3
import Derived.Lib.PrintData
import Derived.Lib.Quote
import Derived.Lib.LaidU8
namespace Go.Proofs.Qxb6613210aGreatFmt
open Go.RowKit Pl Go.Extern.Stop Go.Stop Go.Extern

/-- The keywords' table, as the row lists it: the token of a word. -/
def kwLook (l : List UInt8) : Option Int := if keyTok l = 57379 then (if l = pdL then some 57370 else none) else some (keyTok l)
/-- The punctuation's table. -/
def pnLook (c : UInt8) : Option Int := if c.toNat = 59 then some 57382 else if c.toNat = 45 ∨ c.toNat = 61 ∨ c.toNat = 44 ∨ c.toNat = 63 then some (c.toNat : Int) else none

/-- What the walks ask of the world in which the law begins. -/
structure Env (F : Interp) (w0 : World) : Prop where
  ans : F.answers w0.tape
  pow : Pow10 w0
  err : ∃ te pe, w0.cell? ⟨6, 0, none⟩ = some (.iface te pe)
  print : Lib.PrintTabsAt 8 9 10 11 Lib.goPrintTabs w0
  utf : Lib.Utf8Tabs 2 3 w0
  kw : ∃ bm, w0.cell? ⟨0, 0, none⟩ = some (.map (some bm)) ∧ bm < w0.heap.size ∧ ∀ W : World, W.heap[bm]? = w0.heap[bm]? → ∀ s : ByteArray, s.size ≤ 1048576 →
    (kwLook s.data.toList = none ∧ (Instr.lookup 91 (.map (some bm)) (.string s) true).run Tryz.prog W = .ok (.tuple #[.int .i64 0, .bool false]) W) ∨
    (∃ v, kwLook s.data.toList = some v ∧ (Instr.lookup 91 (.map (some bm)) (.string s) true).run Tryz.prog W = .ok (.tuple #[.int .i64 v, .bool true]) W)
  pn : ∃ bm, w0.cell? ⟨1, 0, none⟩ = some (.map (some bm)) ∧ bm < w0.heap.size ∧ ∀ W : World, W.heap[bm]? = w0.heap[bm]? → ∀ c : UInt8,
    (pnLook c = none ∧ (Instr.lookup 93 (.map (some bm)) (.int .u8 c.toNat) true).run Tryz.prog W = .ok (.tuple #[.int .i64 0, .bool false]) W) ∨
    (∃ v, pnLook c = some v ∧ (Instr.lookup 93 (.map (some bm)) (.int .u8 c.toNat) true).run Tryz.prog W = .ok (.tuple #[.int .i64 v, .bool true]) W)

theorem Pow10.below {w w' : World} (h : Pow10 w) (hb : Below w.heap.size w w') : Pow10 w' := by
  unfold Pow10 Lib.TabIs World.var? at *
  cases hg : Tryz.prog.globalNamed ((Rows.fnErrorAtSpecStartRow.laid.map (·.1)).getD 2 "") with
  | none => rw [hg] at h; cases h
  | some g =>
    rw [hg] at h
    simp only [Option.bind_some] at h ⊢
    have : g < w.heap.size := by
      rcases Nat.lt_or_ge g w.heap.size with hh | hh
      · exact hh
      · rw [Array.getElem?_eq_none hh] at h; cases h
    rw [hb.block g this]; exact h
theorem Env.below {F : Interp} {w w' : World} (h : Env F w) (hb : Below w.heap.size w w') : Env F w' where
  ans := by rw [hb.tape]; exact h.ans
  pow := h.pow.below hb
  err := by
    obtain ⟨te, pe, hc⟩ := h.err
    exact ⟨te, pe, by rw [hb.cell (World.block_lt_of_cell? _ _ hc)]; exact hc⟩
  print := printTabs_below h.print hb
  utf := Utf8Tabs_below h.utf hb
  kw := by
    obtain ⟨bm, hc, hlt, hh⟩ := h.kw
    exact ⟨bm, by rw [hb.cell (World.block_lt_of_cell? _ _ hc)]; exact hc, by have := hb.size; omega, fun W hW => hh W (by rw [hW]; exact hb.block bm hlt)⟩
  pn := by
    obtain ⟨bm, hc, hlt, hh⟩ := h.pn
    exact ⟨bm, by rw [hb.cell (World.block_lt_of_cell? _ _ hc)]; exact hc, by have := hb.size; omega, fun W hW => hh W (by rw [hW]; exact hb.block bm hlt)⟩
/-- What is kept but for block L is kept below every number up to L. -/
theorem Kept.old {L B : Nat} {w w' : World} (h : Kept L w w') (h1 : B ≤ L) (h2 : B ≤ w.heap.size) : Below B w w' :=
  ⟨h.os, h.tape, h.output, h.size, fun k hk => h.block k (by omega) (by omega)⟩
end Go.Proofs.Qxb6613210aGreatFmt
