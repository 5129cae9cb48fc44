import Derived.Test.Qxb6613210aGreatFmtW16
namespace Go.Proofs.Qxb6613210aGreatFmt
open Go.RowKit Pl Go.Extern.Stop Go.Stop Go.Extern
/-- A finding in block D. -/
def Dg (D : Nat) (n : Int) (t : ByteArray) (w : World) : Prop := w.heap[D]? = some (.cells #[.string ⟨#[]⟩, .int .i64 n, .string t] 30 (0, 0))
theorem Dg.of {D : Nat} {n : Int} {t : ByteArray} {w : World} (h : w.heap[D]? = some (.cells #[.string ⟨#[]⟩, .int .i64 n, .string t] 30 (0, 0))) : Dg D n t w := h
theorem Dg.lt {D : Nat} {n : Int} {t : ByteArray} {w : World} (h : Dg D n t w) : D < w.heap.size := by
  unfold Dg at h
  rcases Nat.lt_or_ge D w.heap.size with hh | hh
  · exact hh
  · rw [Array.getElem?_eq_none hh] at h; cases h
theorem Dg.set {D : Nat} {n : Int} {t : ByteArray} {w : World} (h : Dg D n t w) {p : Addr} (hp : D ≠ p.block) (v : Value) : Dg D n t (w.setCell p v) := by
  unfold Dg at h ⊢; rw [Below.heap_setCell _ _ _ _ hp]; exact h
theorem Dg.alloc {D : Nat} {n : Int} {t : ByteArray} {w : World} (h : Dg D n t w) (o : Obj) : Dg D n t (w.alloc o) := by
  have := h.lt
  unfold Dg at h ⊢; rw [Below.heap_alloc _ _ _ this]; exact h
theorem Dg.drew {D : Nat} {n : Int} {t : ByteArray} {w : World} (h : Dg D n t w) : Dg D n t w.drew := h
theorem Dg.below {D : Nat} {n : Int} {t : ByteArray} {w w' : World} (h : Dg D n t w) (hb : Below w.heap.size w w') : Dg D n t w' := by
  have := h.lt
  unfold Dg at h ⊢; rw [hb.block D this]; exact h
theorem Dg.cells {D : Nat} {n : Int} {t : ByteArray} {w : World} (h : Dg D n t w) : w.cell? ⟨D, 0, none⟩ = some (.string ⟨#[]⟩) ∧ w.cell? ⟨D, 1, none⟩ = some (.int .i64 n) ∧ w.cell? ⟨D, 2, none⟩ = some (.string t) := by
  unfold Dg at h; exact ⟨by simp [World.cell?, h], by simp [World.cell?, h], by simp [World.cell?, h]⟩
/-- The lexer's block where the specification begins: rest s, line n, and no finding. -/
def Lx0 (L : Nat) (s : ByteArray) (n : Int) (w : World) : Prop :=
  Lx L (.pointer none) (.string s) (.int .i64 n) (.bool true) (.int .i64 57382) (.int .i64 n) (.string ⟨#[]⟩) (.string ⟨#[]⟩) (.int .i64 57382) (.int .i64 n) (.string ⟨#[]⟩) (.string ⟨#[]⟩) (.bool true) (.slice none 0 0) .nilIface w
/-- The lexer's block behind one token t with text x. -/
def LxT (L : Nat) (s : ByteArray) (n t : Int) (x y : ByteArray) (err : Value) (w : World) : Prop :=
  Lx L (.pointer none) (.string s) (.int .i64 n) (.bool true) (.int .i64 t) (.int .i64 n) (.string x) (.string y) (.int .i64 t) (.int .i64 n) (.string x) (.string y) (.bool true) (.slice none 0 0) err w
/-- What (*lexer).Lex has done. -/
def LexPost (L : Nat) (T : ByteArray) (n : Int) (wb : World) (e : Ending) (w' : World) : Prop :=
  (NoAhead T ∧ e = .returned (.int .i64 0) ∧ Kept L wb w' ∧ ∃ y, Lx0 L y n w') ∨
  (Ahead T ∧ ∃ t j x y, tokOf T.data.toList = some (t, j) ∧ e = .returned (.int .i64 t) ∧ Kept L wb w' ∧ LxT L y n t (T.extract 0 j) x .nilIface w') ∨
  (Ahead T ∧ ∃ D t y, tokOf T.data.toList = none ∧ e = .returned (.int .i64 57383) ∧ Kept L wb w' ∧ wb.heap.size ≤ D ∧ D ≠ L ∧ LxT L y n 57383 ⟨#[]⟩ ⟨#[]⟩ (.iface 27 (.pointer (some ⟨D, 0, none⟩))) w' ∧ Dg D n t w')
set_option maxRecDepth 100000 in
set_option maxHeartbeats 2000000 in
theorem lex_any (F : Interp) (L V : Nat) (n : Int) (s T : ByteArray) (w0 wb w : World) (v0 v1 v2 v3 : Value) (hE : Env F w0) (hB0 : Below w0.heap.size w0 w) (hL0 : w0.heap.size ≤ L)
    (hL : Lx0 L s n w) (hT : s.extract (runEnd isBl s.data.toList 0) s.size = T) (hs : s.size ≤ 1048576) (hKb : Kept L wb w) (hV : wb.heap.size ≤ V) (hVL : V ≠ L)
    (hVc : w.heap[V]? = some (.cells #[v0, v1, v2, v3] 58 (0, 0))) :
    Calls Tryz.prog 22 #[.pointer (some ⟨L, 0, none⟩), .pointer (some ⟨V, 0, none⟩)] w fun e w' => LexPost L T n wb e w' := by
  have hS := scan_any F L n _ _ _ _ _ _ _ _ _ _ _ _ s T w0 w hE hB0 hL0 hL hT hs
  have HS : Hid (Calls Tryz.prog 31 #[.pointer (some ⟨L, 0, none⟩)] w _) := hS
  have hVw : V < w.heap.size := by
    rcases Nat.lt_or_ge V w.heap.size with hh | hh
    · exact hh
    · rw [Array.getElem?_eq_none hh] at hVc; cases hVc
  have HVc : Hid (w.heap[V]? = some (.cells #[v0, v1, v2, v3] 58 (0, 0))) := hVc
  have HKb : Hid (Kept L wb w) := hKb
  have hltw := Lx.lt hL
  have HL : Hid (Lx0 L s n w) := hL
  clear hS hE hB0 hT hVc hKb hL
  go_enter Tryz.func22, Tryz.ntmps22
  go_wp2_with fail
  refine HS.out.mono ?_
  rintro e w2 (⟨hA, rfl, hK, hL2⟩ | ⟨hA, (⟨t, j, x, y, ht, rfl, hK, hL2⟩ | ⟨D, t, y, ht, rfl, hK, hD, hL2, hDt⟩)⟩)
  · have HK : Hid (Kept L wb w2) := HKb.out.trans hK
    have HL2 : Hid (Lx0 L T n w2) := hL2
    have HA : Hid (NoAhead T) := hA
    clear hA hK hL2
    go_wp2
    go_ret
    exact Or.inl ⟨HA.out, rfl, HK.out.alloc _, T, HL2.out.alloc _⟩
  · have Ht : Hid (tokOf T.data.toList = some (t, j)) := ht
    clear ht
    have hlt2 := hL2.lt
    have k4 := hL2.at4.1
    have z4 := hL2.at4.2
    have z5 := hL2.at5.2
    have z6 := hL2.at6.2
    have z7 := hL2.at7.2
    have z8 := hL2.at8.2
    have z9 := hL2.at9.2
    have z10 := hL2.at10.2
    have z11 := hL2.at11.2
    have z12 := hL2.at12.2
    have k5 := hL2.at5.1
    have k6 := hL2.at6.1
    have k7 := hL2.at7.1
    have k8 := hL2.at8.1
    have k9 := hL2.at9.1
    have k10 := hL2.at10.1
    have k11 := hL2.at11.1
    have k12 := hL2.at12.1
    have hV2 : w2.heap[V]? = some (.cells #[v0, v1, v2, v3] 58 (0, 0)) := by rw [hK.block V hVw hVL]; exact HVc.out
    have m1 : w2.cell? ⟨V, 1, none⟩ = some v1 := by simp [World.cell?, hV2]
    have m2 : w2.cell? ⟨V, 2, none⟩ = some v2 := by simp [World.cell?, hV2]
    have n1 : w2.frozen? ⟨V, 1, none⟩ = false := by simp [World.frozen?, hV2]
    have n2 : w2.frozen? ⟨V, 2, none⟩ = false := by simp [World.frozen?, hV2]
    have hVw2 : V < w2.heap.size := by have := hK.size; omega
    have HK : Hid (Kept L wb w2) := HKb.out.trans hK
    have HL2 : Hid (Lx L (.pointer none) (.string y) (.int .i64 n) (.bool true) (.int .i64 57382) (.int .i64 n) (.string ⟨#[]⟩) (.string ⟨#[]⟩) (.int .i64 57382) (.int .i64 n) (.string ⟨#[]⟩) (.string ⟨#[]⟩) (.bool true) (.slice none 0 0) .nilIface w2) := hL2
    have HA : Hid (Ahead T) := hA
    clear hA hK hL2 hV2
    go_wp2_with fail
    go_region
    go_wp2
    go_ret
    exact Or.inr (Or.inl ⟨HA.out, t, j, x, y, Ht.out, rfl, ((((((((((((HK.out.set 12 _).set 8 _).set 9 _).set 10 _).set 11 _).set 4 _).set 5 _).set 6 _).set 7 _).setNew hV _).setNew hV _).alloc _).drew, ((((((((((((HL2.out.set12 _).set8 _).set9 _).set10 _).set11 _).set4 _).set5 _).set6 _).set7 _).setNew (by exact hVL) _).setNew (by exact hVL) _).alloc _).drew⟩)
  · have Ht : Hid (tokOf T.data.toList = none) := ht
    have HDt : Hid (w2.heap[D]? = some (.cells #[.string ⟨#[]⟩, .int .i64 n, .string t] 30 (0, 0))) := hDt
    have hDw2 : D < w2.heap.size := by
      rcases Nat.lt_or_ge D w2.heap.size with hh | hh
      · exact hh
      · rw [Array.getElem?_eq_none hh] at hDt; cases hDt
    have hDL : D ≠ L := by omega
    have hDV : D ≠ V := by omega
    have hDb : wb.heap.size ≤ D := by have := HKb.out.size; omega
    clear ht hDt
    have hlt2 := hL2.lt
    have k4 := hL2.at4.1
    have z4 := hL2.at4.2
    have z5 := hL2.at5.2
    have z6 := hL2.at6.2
    have z7 := hL2.at7.2
    have z8 := hL2.at8.2
    have z9 := hL2.at9.2
    have z10 := hL2.at10.2
    have z11 := hL2.at11.2
    have z12 := hL2.at12.2
    have k5 := hL2.at5.1
    have k6 := hL2.at6.1
    have k7 := hL2.at7.1
    have k8 := hL2.at8.1
    have k9 := hL2.at9.1
    have k10 := hL2.at10.1
    have k11 := hL2.at11.1
    have k12 := hL2.at12.1
    have hV2 : w2.heap[V]? = some (.cells #[v0, v1, v2, v3] 58 (0, 0)) := by rw [hK.block V hVw hVL]; exact HVc.out
    have m1 : w2.cell? ⟨V, 1, none⟩ = some v1 := by simp [World.cell?, hV2]
    have m2 : w2.cell? ⟨V, 2, none⟩ = some v2 := by simp [World.cell?, hV2]
    have n1 : w2.frozen? ⟨V, 1, none⟩ = false := by simp [World.frozen?, hV2]
    have n2 : w2.frozen? ⟨V, 2, none⟩ = false := by simp [World.frozen?, hV2]
    have hVw2 : V < w2.heap.size := by have := hK.size; omega
    have HK : Hid (Kept L wb w2) := HKb.out.trans hK
    have HL2 : Hid (Lx L (.pointer none) (.string y) (.int .i64 n) (.bool true) (.int .i64 57382) (.int .i64 n) (.string ⟨#[]⟩) (.string ⟨#[]⟩) (.int .i64 57382) (.int .i64 n) (.string ⟨#[]⟩) (.string ⟨#[]⟩) (.bool true) (.slice none 0 0) (.iface 27 (.pointer (some ⟨D, 0, none⟩))) w2) := hL2
    have HA : Hid (Ahead T) := hA
    clear hA hK hL2 hV2
    go_wp2_with fail
    go_region
    go_wp2
    go_ret
    refine Or.inr (Or.inr ⟨HA.out, D, t, y, Ht.out, rfl, ((((((((((((HK.out.set 12 _).set 8 _).set 9 _).set 10 _).set 11 _).set 4 _).set 5 _).set 6 _).set 7 _).setNew hV _).setNew hV _).alloc _).drew, hDb, hDL, ((((((((((((HL2.out.set12 _).set8 _).set9 _).set10 _).set11 _).set4 _).set5 _).set6 _).set7 _).setNew (by exact hVL) _).setNew (by exact hVL) _).alloc _).drew, ?_⟩)
    exact (((((((((((((Dg.of HDt.out).set (by exact hDL) _).set (by exact hDL) _).set (by exact hDL) _).set (by exact hDL) _).set (by exact hDL) _).set (by exact hDL) _).set (by exact hDL) _).set (by exact hDL) _).set (by exact hDL) _).set (by exact hDV) _).set (by exact hDV) _).alloc _).drew
end Go.Proofs.Qxb6613210aGreatFmt
