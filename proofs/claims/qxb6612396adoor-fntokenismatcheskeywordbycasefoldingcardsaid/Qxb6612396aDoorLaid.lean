import Derived.Test.Qxb6612396aDoorRows
import Derived.Test.Qxb6612396aDoorW6
import Derived.Lib.LaidU8
import Derived.ProofKit
namespace Go.Proofs.Qxb6612396aDoor
open Go.RowKit Go.Lib
set_option maxRecDepth 100000 in
theorem fold_data : (Rows.laid_unicode_asciiFold : DataW Unit) = tabData .u16 ((List.range 128).map fun r => (foldA r : Int)) := by kernel_rfl
/-- One entry, as a datum. -/
def pairData (x : Int × Int) : DataW Unit := .agg ([x.1, x.2].map fun z => .lit (.int .u16 z))
set_option maxRecDepth 100000 in
theorem orb_data : (Rows.laid_unicode_caseOrbit : DataW Unit) = .slice (orbL.map pairData) [] := by kernel_rfl
theorem orb_len : orbL.length = 94 := by decide
theorem orb_at (i : Nat) (hi : i < 94) : orbL[i]? = some (orbL.getD i (0, 0)) := by
  rw [List.getD_eq_getElem?_getD, List.getElem?_eq_getElem (by rw [orb_len]; exact hi)]
  rfl
set_option maxRecDepth 100000 in
/-- The two tables, off the row's list. -/
theorem tab_of {W : World} (hL : laidMet Tryd.prog Rows.fnTokenIsMatchesKeywordByCaseFoldingRow.laid W) : Tab W where
  fold := by
    have h1 : VarReads Tryd.prog W "unicode.asciiFold" Rows.laid_unicode_asciiFold := laidMet.reads hL (List.mem_of_getElem? (i := 1) rfl)
    obtain ⟨g, t, cs, fuel, p, hg, ht, hv, hd⟩ := h1
    obtain rfl := Option.some.inj ((show Tryd.prog.globalNamed "unicode.asciiFold" = some 0 by kernel_rfl).symm.trans hg)
    obtain rfl := Option.some.inj ((show (Tryd.prog.globals[0]?).map (·.type) = some 35 by kernel_rfl).symm.trans ht)
    rw [fold_data] at hd
    have hcs := cells_of_tab Tryd.underlying35 Tryd.underlying34 (by kernel_rfl) (by kernel_rfl) hd
    intro r hr
    have := World.var?_cell hg hv r
    rw [this, ← Array.getElem?_toList, hcs]
    simp [hr]
  orb := by
    have h1 : VarReads Tryd.prog W "unicode.caseOrbit" Rows.laid_unicode_caseOrbit := laidMet.reads hL (List.mem_of_getElem? (i := 2) rfl)
    obtain ⟨g, t, cs, fuel, p, hg, ht, hv, hd⟩ := h1
    obtain rfl := Option.some.inj ((show Tryd.prog.globalNamed "unicode.caseOrbit" = some 1 by kernel_rfl).symm.trans hg)
    obtain rfl := Option.some.inj ((show (Tryd.prog.globals[1]?).map (·.type) = some 36 by kernel_rfl).symm.trans ht)
    rw [orb_data] at hd
    rcases DataW.trod_slice Tryd.underlying36 hd with ⟨_, hx⟩ | ⟨a, len, cap, el, rs, m, _, hc0, hx, _, _, _, hel, helem, _, _⟩
    · cases hx
    have eE : el.map (·.1) = orbL.map pairData := by
      have := congrArg Prod.fst hx
      simp only [DataW.slice.injEq] at this
      exact this.1.symm
    have hlen : len = 94 := by
      have := congrArg List.length eE
      rw [List.length_map, List.length_map, orb_len] at this
      omega
    subst hlen
    have hc2 : Tryd.prog.cellsOf 39 = 2 := by kernel_rfl
    have hc1 : Tryd.prog.cellsOf 34 = 1 := by kernel_rfl
    have hrange : ∀ i, i < 94 → W.cell? ((a.add (i * 2)).add 0) = some (.int .u16 (orbL.getD i (0, 0)).1) ∧ W.cell? ((a.add (i * 2)).add 1) = some (.int .u16 (orbL.getD i (0, 0)).2) := by
      intro i hi
      have h1 := helem i hi
      rw [hc2] at h1
      obtain ⟨b, hb⟩ : ∃ b, el[i]? = some b := ⟨el[i]'(by omega), List.getElem?_eq_getElem (by omega)⟩
      rw [hb] at h1
      obtain ⟨ce, hce, hte⟩ := Option.bind_eq_some_iff.1 h1
      have hb1 : b.1 = pairData (orbL.getD i (0, 0)) := by
        have := congrArg (·[i]?) eE
        simp only [List.getElem?_map, hb, orb_at i hi, Option.map_some, Option.some.injEq] at this
        exact this
      have hcs := ints_of_struct (p := b.2) (zs := [(orbL.getD i (0, 0)).1, (orbL.getD i (0, 0)).2]) Tryd.underlying39 (fun q f hq => by
        match q, hq with
        | 0, hq => simp at hq; subst hq; exact ⟨Tryd.underlying34, rfl, hc1⟩
        | 1, hq => simp at hq; subst hq; exact ⟨Tryd.underlying34, rfl, hc1⟩
        | q + 2, hq => simp at hq) (by rw [hc2]; rfl) (by
          have e : b = (.agg ([(orbL.getD i (0, 0)).1, (orbL.getD i (0, 0)).2].map fun z => .lit (.int .u16 z)), b.2) := Prod.ext hb1 rfl
          rw [← e]; exact hte)
      obtain ⟨_, _, hcc⟩ := World.cells?_some hce
      exact ⟨by rw [hcc 0 (by omega), hcs]; rfl, by rw [hcc 1 (by omega), hcs]; rfl⟩
    obtain ⟨blk, off, sp⟩ := a
    obtain rfl : sp = none := by
      have h00 := (hrange 0 (by omega)).1
      have : (Addr.add (Addr.add ⟨blk, off, sp⟩ (0 * 2)) 0) = ⟨blk, off, sp⟩ := by simp [Addr.add]
      rw [this] at h00
      exact cell_spot h00
    refine ⟨blk, off, cap, ?_, fun i hi => ?_⟩
    · rw [World.var?_cell hg hv 0, ← Array.getElem?_toList, hc0]
      rfl
    · have := hrange i hi
      rw [Addr.add_lit, Addr.add_lit, Addr.add_lit] at this
      rw [show off + 2 * i = off + i * 2 + 0 by omega, show off + (2 * i + 1) = off + i * 2 + 1 by omega]
      exact this
end Go.Proofs.Qxb6612396aDoor
