import Derived.Test.Qxb6613210aGreatFmtEnv
import Derived.Test.Qxb6613210aGreatFmtShelf
import Derived.Maps.Keyed
import Derived.StringKeys
import Derived.WideKeyArgs2
import Derived.WideKeyElems2
import Derived.PinnedBridge
import Derived.Stop.LaidErr
import Derived.ProofKit
import Derived.LaidMore
namespace Go.Proofs.Qxb6613210aGreatFmt
open Go.ChangeShapes Go.WideShapes Go.ChangeAt Go.WideMaps Go.WideElems Go.RowKit Pl Go.Extern.Stop Go.Stop Go.Extern Go.Maps

/-- A variable that holds a map of integers, off its datum: the cell, and each look-up. -/
theorem map_look {W : World} {name : String} {D : DataW Unit} {g t k e : Nat} (K : Keyed Tryz.prog k) (hg : Tryz.prog.globalNamed name = some g) (hty : (Tryz.prog.globals[g]?).map (·.type) = some t) (ht : Tryz.prog.underlying t = some (.map k e))
    (he : Tryz.prog.underlying e = some (.int .i64)) (hz : ∀ W : World, (zeroValue e).run Tryz.prog W = .ok (.int .i64 0) W) (hD : D ≠ .nil) (h : Lib.VarReads Tryz.prog W name D) :
    ∃ bm, W.cell? ⟨g, 0, none⟩ = some (.map (some bm)) ∧ bm < W.heap.size ∧ ∀ W' : World, W'.heap[bm]? = W.heap[bm]? → ∀ (key : Value) (kl : Lit), keyOf Tryz.prog k key = some kl →
      (D.atKey kl .nil = .nil ∧ (Instr.lookup t (.map (some bm)) key true).run Tryz.prog W' = .ok (.tuple #[.int .i64 0, .bool false]) W') ∨
      (∃ v, D.atKey kl .nil = .lit (.int .i64 v) ∧ (Instr.lookup t (.map (some bm)) key true).run Tryz.prog W' = .ok (.tuple #[.int .i64 v, .bool true]) W') := by
  obtain ⟨g', t', cs, fuel, p, hg', ht', hv, hd⟩ := h
  obtain rfl := Option.some.inj (hg.symm.trans hg')
  obtain rfl := Option.some.inj (hty.symm.trans ht')
  rcases WideElems.open_map ht hd with ⟨_, hx⟩ | ⟨bm, es, clock, m, rfl, hcs, hb, _, F, hx⟩
  · simp only [Prod.mk.injEq] at hx
    exact absurd hx.1 hD
  simp only [Prod.mk.injEq] at hx
  have hcell : W.cell? ⟨g, 0, none⟩ = some (.map (some bm)) := by
    have := World.var?_cell hg' hv 0
    rw [Array.eq_one_of_toList hcs] at this
    simpa using this
  have hlt : bm < W.heap.size := by
    rcases Nat.lt_or_ge bm W.heap.size with hh | hh
    · exact hh
    · rw [Array.getElem?_eq_none hh] at hb; cases hb
  refine ⟨bm, hcell, hlt, fun W' hW' key kl hkey => ?_⟩
  rw [hx.1]
  rcases Maps.fit_look (w := W') true K ht (hz W') (hW'.trans hb) F hkey with ⟨hrun, _, hat⟩ | ⟨e0, y, _, _, hrun, hR, hat, _⟩
  · exact Or.inl ⟨hat _, hrun⟩
  · obtain ⟨a, e1, e2, _⟩ := elemAt_int he hR
    refine Or.inr ⟨a, ?_, ?_⟩
    · rw [hat, e2]
    · rw [e1] at hrun; exact hrun

def kwD : List (List UInt8 × Int) := [([97, 110, 100], 57361), ([97, 114, 103, 115], 57359), ([97, 116], 57371), ([98, 105, 111], 57378), ([99, 111, 110, 102, 105, 103], 57351), ([99, 111, 110, 116, 114, 111, 108, 108, 101, 114], 57369), ([99, 112, 117], 57347), ([99, 115, 114], 57375), ([100, 101, 118, 105, 99, 101], 57365), ([100, 105, 115, 107], 57367), ([100, 114, 105, 118, 101], 57375), ([100, 114, 113], 57376), ([100, 115, 116], 57353), ([100, 117, 109, 112, 115], 57358), ([102, 108, 97, 103, 115], 57375), ([105, 100, 101, 110, 116], 57350), ([105, 111, 109, 101, 109], 57376), ([105, 111, 115, 105, 122], 57376), ([105, 114, 113], 57376), ([109, 97, 99, 104, 105, 110, 101], 57346), ([109, 97, 106, 111, 114], 57363), ([109, 97, 107, 101, 111, 112, 116, 105, 111, 110, 115], 57349), ([109, 97, 115, 116, 101, 114], 57366), ([109, 97, 120, 117, 115, 101, 114, 115], 57354), ([109, 105, 110, 111, 114], 57364), ([110, 101, 116], 57378), ([110, 101, 120, 117, 115], 57372), ([111, 110], 57360), ([111, 112, 116, 105, 111, 110, 115], 57348), ([112, 111, 114, 116], 57377), ([112, 114, 105, 111, 114, 105, 116, 121], 57374), ([112, 115, 101, 117, 100, 111, 45, 100, 101, 118, 105, 99, 101], 57370), ([114, 111, 111, 116], 57357), ([115, 105, 122, 101], 57362), ([115, 108, 97, 118, 101], 57375), ([115, 119, 97, 112], 57356), ([116, 97, 112, 101], 57368), ([116, 105, 109, 101, 122, 111, 110, 101], 57352), ([116, 114, 97, 99, 101], 57355), ([116, 116, 121], 57378), ([118, 101, 99, 116, 111, 114], 57373)]
theorem kwD_eq : (Rows.laid_example_com_recoli_recoli_kernconf_keywords : DataW Unit) = .map (kwD.map fun p => (.string p.1, .lit (.int .i64 p.2))) := rfl
theorem kwD_all : (kwD.all fun p => kwLook p.1 == some p.2) = true := by decide
theorem kwD_none (l : List UInt8) (h : ∀ p ∈ kwD, (p.1 == l) = false) : kwLook l = none := by
  have h2 : ∀ k, (kwD.map (·.1)).contains k = true → (l == k) = false := by
    intro k hk
    obtain ⟨p, hp, rfl⟩ := List.mem_map.1 (List.contains_iff_mem.1 hk)
    rw [Bool.beq_comm]; exact h p hp
  have h3 : keyTok l = 57379 := by
    unfold keyTok
    repeat rw [if_neg (by rw [h2 _ (by decide)]; decide)]
  have h4 : l ≠ pdL := fun e => by
    have := h2 pdL (by decide)
    rw [e] at this
    revert this; decide
  unfold kwLook
  rw [if_pos h3, if_neg h4]
theorem find_kw (l : List UInt8) : ∀ kv : List (List UInt8 × Int), (DataW.map (kv.map fun p => ((.string p.1 : Lit), (.lit (.int .i64 p.2) : DataW Unit)))).atKey (.string l) .nil = match kv.find? (fun p => p.1 == l) with | some p => .lit (.int .i64 p.2) | none => .nil
  | [] => rfl
  | p :: kv => by
    have ih := find_kw l kv
    simp only [DataW.atKey, List.map_cons, List.find?_cons, Lit.sameKey] at ih ⊢
    cases hp : p.1 == l with
    | true => rfl
    | false => exact ih
theorem kw_at (l : List UInt8) : ((Rows.laid_example_com_recoli_recoli_kernconf_keywords : DataW Unit).atKey (.string l) .nil = .nil ∧ kwLook l = none) ∨ ∃ v, (Rows.laid_example_com_recoli_recoli_kernconf_keywords : DataW Unit).atKey (.string l) .nil = .lit (.int .i64 v) ∧ kwLook l = some v := by
  rw [kwD_eq, find_kw]
  cases hf : kwD.find? (fun p => p.1 == l) with
  | none =>
    refine Or.inl ⟨rfl, kwD_none l fun p hp => ?_⟩
    have := List.find?_eq_none.1 hf p hp
    simpa using this
  | some p =>
    refine Or.inr ⟨p.2, rfl, ?_⟩
    have h1 := List.find?_some hf
    have h2 := List.mem_of_find?_eq_some hf
    have h3 := List.all_eq_true.1 kwD_all p h2
    rw [beq_iff_eq] at h1 h3
    rw [← h1]; exact h3
theorem pn_at (c : UInt8) : ((Rows.laid_example_com_recoli_recoli_kernconf_punctuation : DataW Unit).atKey (.int .u8 c.toNat) .nil = .nil ∧ pnLook c = none) ∨ ∃ v, (Rows.laid_example_com_recoli_recoli_kernconf_punctuation : DataW Unit).atKey (.int .u8 c.toNat) .nil = .lit (.int .i64 v) ∧ pnLook c = some v := by
  revert c
  have key : ∀ n : Fin 256, ((Rows.laid_example_com_recoli_recoli_kernconf_punctuation : DataW Unit).atKey (.int .u8 (n.val : Int)) .nil = .nil ∧ pnLook (UInt8.ofNat n.val) = none) ∨ ∃ v, (Rows.laid_example_com_recoli_recoli_kernconf_punctuation : DataW Unit).atKey (.int .u8 (n.val : Int)) .nil = .lit (.int .i64 v) ∧ pnLook (UInt8.ofNat n.val) = some v := by
    intro n
    unfold pnLook
    have hn : (UInt8.ofNat n.val).toNat = n.val := by
      rw [UInt8.toNat_ofNat']; exact Nat.mod_eq_of_lt n.isLt
    rw [hn]
    by_cases h1 : n.val = 59
    · rw [h1]; exact Or.inr ⟨57382, rfl, rfl⟩
    by_cases h2 : n.val = 45
    · rw [h2]; exact Or.inr ⟨45, rfl, rfl⟩
    by_cases h3 : n.val = 61
    · rw [h3]; exact Or.inr ⟨61, rfl, rfl⟩
    by_cases h4 : n.val = 44
    · rw [h4]; exact Or.inr ⟨44, rfl, rfl⟩
    by_cases h5 : n.val = 63
    · rw [h5]; exact Or.inr ⟨63, rfl, rfl⟩
    refine Or.inl ⟨?_, by rw [if_neg h1, if_neg (by omega)]⟩
    have d : ∀ a : Int, (n.val : Int) ≠ a → decide (True ∧ a = (n.val : Int)) = false := fun a ha => decide_eq_false fun h => ha h.2.symm
    simp only [Rows.laid_example_com_recoli_recoli_kernconf_punctuation, DataW.atKey, List.find?_cons, List.find?_nil, Lit.sameKey, d 44 (by omega), d 45 (by omega), d 59 (by omega), d 61 (by omega), d 63 (by omega)]
  intro c
  have := key ⟨c.toNat, c.toNat_lt⟩
  simpa using this
/-- The dynamic type's name, as the row's datum spells it. -/
def errName : String := match (Rows.laid_strconv_ErrRange : DataW Unit) with
  | .iface n _ => n
  | _ => ""
theorem row147 (u : TypeId) (h : Tryz.prog.typeName? 3 u = some errName) : u = 147 :=
  typeName_ptr_named (nm := "errors.errorString") (by kernel_rfl) (by kernel_rfl) (by decide) u (h.trans (by decide))
/-- The name that stands at place i of the row's list. -/
def nm (i : Nat) : String := (Rows.fnErrorAtSpecStartRow.laid.map (·.1)).getD i ""
theorem laidAt (i : Nat) {d : DataW Unit} (h : Rows.fnErrorAtSpecStartRow.laid[i]? = some (nm i, d)) {W : World} (hL : laidMet Tryz.prog Rows.fnErrorAtSpecStartRow.laid W) : Lib.VarReads Tryz.prog W (nm i) d :=
  Lib.laidMet.reads hL (List.mem_of_getElem? h)
set_option maxRecDepth 100000 in
theorem env_of (F : Interp) (W : World) (hF : F.answers W.tape) (hL : laidMet Tryz.prog Rows.fnErrorAtSpecStartRow.laid W) : Env F W where
  ans := hF
  pow := by
    obtain ⟨g, t, cs, fuel, p, hg, ht, hv, hd⟩ := laidAt 2 (d := Rows.laid_internal_strconv_uint64pow10) rfl hL
    obtain rfl := Option.some.inj ((show Tryz.prog.globalNamed (nm 2) = some 7 by kernel_rfl).symm.trans hg)
    obtain rfl := Option.some.inj ((show (Tryz.prog.globals[7]?).map (·.type) = some 138 by kernel_rfl).symm.trans ht)
    have hcs := Lib.cells_of_tab (k := .u64) (zs := Lib.pow10Tab) Tryz.underlying138 Tryz.underlying80 (by kernel_rfl) (by kernel_rfl) ((show (Rows.laid_internal_strconv_uint64pow10 : DataW Unit) = Lib.tabData .u64 Lib.pow10Tab by kernel_rfl) ▸ hd)
    show W.var? Tryz.prog (nm 2) = _
    rw [hv, ← hcs]
  err := by
    obtain ⟨a, s, hv, _⟩ := laid_sentinel (g := 6) hL.tail.tail.tail.tail (by kernel_rfl) (by kernel_rfl) Tryz.underlying54 row147 Tryz.underlying147 Tryz.underlying149 rfl rfl Tryz.underlying9 (by kernel_rfl) (by kernel_rfl)
    refine ⟨147, .pointer (some a), ?_⟩
    have := World.var?_cell (show Tryz.prog.globalNamed (nm 4) = some 6 by kernel_rfl) hv 0
    simpa using this
  print := printTabs_of_reads (ρ := Tryz.lays177_ren) { Tryz.lays177 with } ⟨by kernel_rfl, by kernel_rfl, by kernel_rfl, by kernel_rfl, by kernel_rfl, by kernel_rfl, by kernel_rfl, by kernel_rfl, by kernel_rfl, by kernel_rfl⟩
    (Pinned.isPrint16_eq ▸ laidAt 11 rfl hL) (Pinned.isNotPrint16_eq ▸ laidAt 9 rfl hL) (Pinned.isPrint32_eq ▸ laidAt 12 rfl hL) (Pinned.isNotPrint32_eq ▸ laidAt 10 rfl hL)
  utf := utf8Tabs_of_reads (ρ := Tryz.lays177_ren) { Tryz.lays177 with } ⟨by kernel_rfl, by kernel_rfl, by kernel_rfl, by kernel_rfl, by kernel_rfl, by kernel_rfl, by kernel_rfl⟩ (Pinned.utf8First_eq ▸ laidAt 13 rfl hL) (laidAt 3 rfl hL)
  kw := by
    obtain ⟨bm, h1, h2, h3⟩ := map_look (g := 0) (t := 91) (k := 9) (e := 3) (D := Rows.laid_example_com_recoli_recoli_kernconf_keywords) (string_keyed Tryz.underlying9) (by kernel_rfl) (by kernel_rfl) Tryz.underlying91 Tryz.underlying3 (fun W => by kernel_rfl) (by intro e; cases e) (laidAt 6 rfl hL)
    refine ⟨bm, h1, h2, fun W' hW' s hs => ?_⟩
    rcases h3 W' hW' (.string s) _ (keyOf_string_mk (s := s) Tryz.underlying9 (by unfold maxLen; omega)) with ⟨e1, e2⟩ | ⟨v, e1, e2⟩
    · rcases kw_at s.data.toList with ⟨_, e3⟩ | ⟨v, e3, _⟩
      · exact Or.inl ⟨e3, e2⟩
      · rw [e1] at e3; cases e3
    · rcases kw_at s.data.toList with ⟨e3, _⟩ | ⟨v', e3, e4⟩
      · rw [e1] at e3; cases e3
      · rw [e1] at e3; cases e3; exact Or.inr ⟨v, e4, e2⟩
  pn := by
    obtain ⟨bm, h1, h2, h3⟩ := map_look (g := 1) (t := 93) (k := 5) (e := 3) (D := Rows.laid_example_com_recoli_recoli_kernconf_punctuation) (int_keyed Tryz.underlying5) (by kernel_rfl) (by kernel_rfl) Tryz.underlying93 Tryz.underlying3 (fun W => by kernel_rfl) (by intro e; cases e) (laidAt 7 rfl hL)
    refine ⟨bm, h1, h2, fun W' hW' c => ?_⟩
    have hc : (Lit.int .u8 (c.toNat : Int)).wf = true := by
      have h1 := c.toNat_lt
      have e1 : IntKind.u8.min = 0 := rfl
      have e2 : IntKind.u8.max = 255 := rfl
      simp [Lit.wf, e1, e2]; omega
    rcases h3 W' hW' (.int .u8 c.toNat) _ (keyOf_int_mk Tryz.underlying5 hc) with ⟨e1, e2⟩ | ⟨v, e1, e2⟩
    · rcases pn_at c with ⟨_, e3⟩ | ⟨v, e3, _⟩
      · exact Or.inl ⟨e3, e2⟩
      · rw [e1] at e3; cases e3
    · rcases pn_at c with ⟨e3, _⟩ | ⟨v', e3, e4⟩
      · rw [e1] at e3; cases e3
      · rw [e1] at e3; cases e3; exact Or.inr ⟨v, e4, e2⟩
end Go.Proofs.Qxb6613210aGreatFmt
