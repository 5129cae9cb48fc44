import Derived.Test.Qxb6613210aGreatFmtW18
import Derived.Test.Qxb6613210aGreatFmtW2
import Derived.Test.Qxb6613210aGreatFmtW8
import Derived.Test.Qxb6613210aGreatFmtW12
import Derived.Test.Qxb6613210aGreatFmtPlain5
namespace Go.Proofs.Qxb6613210aGreatFmt
open Go.RowKit Pl Go.Extern.Stop Go.Stop Go.Extern
set_option maxHeartbeats 1000000 in
theorem bytes_any (s m : ByteArray) (n : Int) (w : World) (h1 : (s.size : Int) ≤ 524288) (h2 : (m.size : Int) ≤ 524288) :
    Calls Tryz.prog 5 #[.string s, .int .i64 n, .string m] w fun e w' => e = .returned (.bool true) ∧ w' = w := by
  go_enter Tryz.func5, Tryz.ntmps5
  go_wp2
  all_goals
    go_ret
    exact ⟨rfl, rfl⟩
set_option maxRecDepth 100000 in
set_option maxHeartbeats 1000000 in
set_option maxRecDepth 100000 in
set_option maxHeartbeats 1000000 in
set_option maxRecDepth 100000 in
set_option maxHeartbeats 1000000 in
set_option maxRecDepth 100000 in
set_option maxHeartbeats 1000000 in
theorem bytes_big (s m : ByteArray) (n : Int) (w : World) :
    Calls Tryz.prog 5 #[.string s, .int .i64 n, .string m] w fun e w' => (∃ b, e = .returned (.bool b)) ∧ w' = w := by
  go_enter Tryz.func5, Tryz.ntmps5
  go_wp2
  all_goals
    go_ret
    exact ⟨⟨_, rfl⟩, rfl⟩
theorem newline_any (s : ByteArray) (w : World) (hs : s.size ≤ 1048576) :
    Calls Tryz.prog 6 #[.string s] w fun e w' => (∃ b, e = .returned (.bool b)) ∧ w' = w :=
  (holdsNewline_any s w hs).mono fun _ _ h => ⟨h.1.elim (fun h => ⟨_, h⟩) (fun h => ⟨_, h⟩), h.2⟩
theorem run_ge (p : UInt8 → Bool) (l : List UInt8) (i : Nat) : i ≤ runEnd p l i := by unfold runEnd; omega
theorem num_pos (l : List UInt8) (t : Int) (j : Nat) (h : numTok l = some (t, j)) : 1 ≤ j := by
  have r1 := run_ge isHex l 2
  have r2 := run_ge isDig l 1
  have r3 := run_ge isDig l (runEnd isDig l 1 + 1)
  unfold numTok at h
  repeat' split at h
  all_goals first | cases h | skip
  all_goals omega
theorem tok_pos (l : List UInt8) (t : Int) (j : Nat) (h : tokOf l = some (t, j)) : 1 ≤ j := by
  have r1 := run_ge isLet l 1
  unfold tokOf at h
  split at h
  · split at h
    · cases h; omega
    · cases h; omega
  · split at h
    · split at h
      · cases h
      · cases h; omega
    · split at h
      · exact num_pos l t j h
      · split at h
        · cases h; omega
        · split at h
          · cases h; omega
          · cases h
theorem end_eq : (((⟨#[101, 110, 100, 32, 111, 102, 32, 108, 105, 110, 101]⟩ : ByteArray) ++ sufB).toList == [101, 110, 100, 32, 111, 102, 32, 108, 105, 110, 101, 32, 98, 101, 103, 105, 110, 115, 32, 110, 111, 32, 115, 112, 101, 99, 105, 102, 105, 99, 97, 116, 105, 111, 110]) = true := by
  rw [ByteArray.toList_eq]; rfl
theorem nums_size (xs : List Int) : (strOfNums xs).size = xs.length := by
  rw [← size_list]; simp [strOfNums]
/-- Is every byte of x an ASCII byte? -/
def Asc (x : ByteArray) : Prop := ∀ k, ∀ h : k < x.size, x[k].toNat < 128
set_option maxRecDepth 100000 in
set_option maxHeartbeats 4000000 in
theorem law_small (F : Interp) (s m : ByteArray) (n : Int) (w : World) (hE : Env F w) (h1 : (s.size : Int) ≤ 524288) (h2 : (m.size : Int) ≤ 524288) :
    Calls Tryz.prog 3 #[.string s, .int .i64 n, .string m] w fun e w' => e = .returned (.bool true) ∧ Below w.heap.size w w' := by
  have HV : Hid (Env F w) := hE
  clear hE
  obtain ⟨T, hT⟩ : ∃ T, s.extract (runEnd isBl s.data.toList 0) s.size = T := ⟨_, rfl⟩
  have hTs : T.size ≤ 524288 := by rw [← hT, ByteArray.size_extract]; omega
  have HT : Hid (s.extract (runEnd isBl s.data.toList 0) s.size = T) := hT
  clear hT
  go_enter Tryz.func3, Tryz.ntmps3
  go_wp2_with (first | (go_at_call 5; refine (bytes_any _ _ _ _ h1 h2).mono ?_; rintro e w' ⟨rfl, hw⟩; replace hw := hw.symm; subst hw) | (go_at_call 6; refine (newline_any _ _ (by omega)).mono ?_; rintro e w' ⟨⟨b, rfl⟩, hw⟩; replace hw := hw.symm; subst hw))
  · go_ret
    exact ⟨rfl, Below.refl _ _⟩
  · refine (new_any s n w).mono ?_
    rintro e w1 ⟨rfl, hL1, hB1, hlt1⟩
    obtain ⟨L, hLw⟩ : ∃ L, w.heap.size = L := ⟨_, rfl⟩
    rw [hLw] at hL1 hlt1
    have HL1 : Hid (Lx0 L s n w1) := hL1
    have HB1 : Hid (Below w.heap.size w w1) := hB1
    rw [hLw]
    clear hL1 hB1
    go_wp2_with fail
    refine (zzlex_any F L n s T w w1 HV.out HB1.out (by omega) HL1.out HT.out (by omega)).mono ?_
    rintro e w2 (⟨hA, rfl, hK, y, hL2⟩ | ⟨hA, t, j, x, y, ht, rfl, hK, hL2⟩ | ⟨hA, D, t, y, ht, rfl, hK, hD, hDL, hL2, hDg⟩)
    · have HB2 : Hid (Below w.heap.size w w2) := HB1.out.trans (hK.old (by omega) (by omega))
      have HL2 : Hid (Lx0 L y n w2) := hL2
      have HA : Hid (NoAhead T) := hA
      have hL2lt := Lx.lt hL2
      clear hK hL2 hA
      go_wp2_with (go_at_call 9; refine (zzerr_nil L _ _ _ _ _ _ _ _ _ _ _ _ _ _ _ HL2.out).mono ?_; rintro e w' ⟨rfl, hw⟩; replace hw := hw.symm; subst hw)
      refine (zzerror_begins L m _ n _ _ _ _ _ _ _ _ _ _ _ _ w2 HL2.out (by decide) (desc_end n _ w2)).mono ?_
      rintro e w3 ⟨rfl, D, hK, hD, hDg, hL3⟩
      have HB3 : Hid (Below w.heap.size w w3) := HB2.out.trans (hK.old (by omega) (by omega))
      have HL3 := hL3
      clear hL3
      have HL3' : Hid (Lx L _ _ _ _ _ _ _ _ _ _ _ _ _ _ _ w3) := HL3
      clear HL3
      obtain ⟨g0, g1, g2⟩ := hDg.cells
      clear hDg hK
      go_wp2_with (first | (go_at_call 9; refine (zzerr_some L D _ _ _ _ _ _ _ _ _ _ _ _ _ _ _ HL3'.out).mono ?_; rintro e w' ⟨rfl, hw⟩; replace hw := hw.symm; subst hw))
      refine (skipBlanks_any s w3 (by omega)).mono ?_
      rw [HT.out]
      rintro e w' ⟨rfl, hw⟩
      replace hw := hw.symm
      subst hw
      rcases HA.out with hz | ⟨h0, hh⟩
      · have hem : T.toList.isEmpty = true := by rw [isEmpty_iff]; exact decide_eq_true hz
        go_wp2
        go_ret
        exact ⟨congrArg (fun b => Ending.returned (Value.bool b)) end_eq, HB3.out⟩
      · have hem : T.toList.isEmpty = false := by rw [isEmpty_iff]; exact decide_eq_false (by omega)
        have hh2 : ((T[0].toNat : Int) == 35) = true := by rw [bne_eq_false_iff_eq] at hh; rw [hh]; rfl
        go_wp2
        go_ret
        exact ⟨congrArg (fun b => Ending.returned (Value.bool b)) end_eq, HB3.out⟩
    · have HB2 : Hid (Below w.heap.size w w2) := HB1.out.trans (hK.old (by omega) (by omega))
      have HL2 : Hid (LxT L y n t (T.extract 0 j) x .nilIface w2) := hL2
      have hj := tok_pos _ _ _ ht
      have Ht : Hid (tokOf T.data.toList = some (t, j)) := ht
      have hL2lt := Lx.lt hL2
      obtain ⟨h0, hh⟩ := hA
      have hxs : (T.extract 0 j).size ≤ 524288 := by rw [ByteArray.size_extract]; omega
      have hxe : (T.extract 0 j).toList.isEmpty = false := by rw [isEmpty_iff, ByteArray.size_extract]; exact decide_eq_false (by omega)
      have hE2 : Env F w2 := HV.out.below HB2.out
      obtain ⟨u, hd, hu, hua⟩ : ∃ u, (Calls Tryz.prog 32 #[.agg #[.int .i64 t, .int .i64 n, .string (T.extract 0 j), .string x]] w2 fun e w' => e = .returned (.string u) ∧ Below w2.heap.size w2 w') ∧ u.size ≤ 20000000 ∧ (Asc (T.extract 0 j) → u = strOfNums (qHead (T.extract 0 j).data.toList ++ [34])) :=
        ⟨_, desc_quote F n t (T.extract 0 j) x w2 hE2 (by omega) (by cases hq : t == 57382 <;> simp [hxe]), by
          have := Lib.quoteZ_length_le Lib.goPrintTabs (T.extract 0 j)
          rw [nums_size]; omega, fun ha => by rw [quoteZ_ascii _ _ ha]⟩
      have HDs : Hid (Calls Tryz.prog 32 #[.agg #[.int .i64 t, .int .i64 n, .string (T.extract 0 j), .string x]] w2 fun e w' => e = .returned (.string u) ∧ Below w2.heap.size w2 w') := hd
      have HUA : Hid (Asc (T.extract 0 j) → u = strOfNums (qHead (T.extract 0 j).data.toList ++ [34])) := hua
      have hem : T.toList.isEmpty = false := by rw [isEmpty_iff]; exact decide_eq_false (by omega)
      have hh2 : ((T[0].toNat : Int) == 35) = false := by rw [bne_iff_ne] at hh; rw [beq_eq_false_iff_ne]; exact hh
      clear hK hL2 ht hE2 hd hxe hua hh
      go_wp2_with (go_at_call 9; refine (zzerr_nil L _ _ _ _ _ _ _ _ _ _ _ _ _ _ _ HL2.out).mono ?_; rintro e w' ⟨rfl, hw⟩; replace hw := hw.symm; subst hw)
      refine (zzerror_begins L m u n _ _ _ _ _ _ _ _ _ _ _ _ w2 HL2.out hu HDs.out).mono ?_
      rintro e w3 ⟨rfl, D, hK, hD, hDg, hL3⟩
      have HB3 : Hid (Below w.heap.size w w3) := HB2.out.trans (hK.old (by omega) (by omega))
      have HL3 : Hid (LxT L y n t (T.extract 0 j) x (.iface 27 (.pointer (some ⟨D, 0, none⟩))) w3) := hL3
      have HDg : Hid (Dg D n (u ++ sufB) w3) := hDg
      obtain ⟨g0, g1, g2⟩ := hDg.cells
      clear hDg hK hL3
      go_wp2_with (first | (go_at_call 9; refine (zzerr_some L D _ _ _ _ _ _ _ _ _ _ _ _ _ _ _ HL3.out).mono ?_; rintro e w' ⟨rfl, hw⟩; replace hw := hw.symm; subst hw))
      refine (skipBlanks_any s w3 (by omega)).mono ?_
      rw [HT.out]
      rintro e w' ⟨rfl, hw⟩
      replace hw := hw.symm
      subst hw
      go_wp2_with fail
      refine (modelToken_any T w3 (by omega) h0).mono ?_
      rintro e w4 ⟨htk, hb4⟩
      have HB4 : Hid (Below w.heap.size w w4) := HB3.out.trans (hb4.mono (by have := HB3.out.size; omega))
      have HDg4 := HDg.out.below hb4
      obtain ⟨g0b, g1b, g2b⟩ := HDg4.cells
      clear g0 g1 g2 HDg4 HDg
      obtain ⟨x', y', rfl⟩ : ∃ x' y', e = .returned (.tuple #[.int .i64 t, .string (T.extract 0 j), .string x', .string y', .bool false]) := by
        rcases htk with ⟨t', j', x', y', e1, e2⟩ | ⟨y', e1, _⟩
        · rw [Ht.out] at e1; cases e1; exact ⟨x', y', e2⟩
        · rw [Ht.out] at e1; cases e1
      clear htk hb4
      go_wp2_with fail
      refine (quotedASCII_any (T.extract 0 j) w4 (by omega)).mono ?_
      rintro e w5 ⟨hq, hb5⟩
      have HB5 : Hid (Below w.heap.size w w5) := HB4.out.trans (hb5.mono (by have := HB4.out.size; omega))
      have g2c : w5.cell? ⟨D, 2, none⟩ = some (.string (u ++ sufB)) := by rw [hb5.cell (World.block_lt_of_cell? _ _ g2b)]; exact g2b
      clear hb5 g0b g1b g2b
      rcases hq with ⟨hna, rfl⟩ | ⟨ha, rfl⟩
      · clear hna
        go_wp2
        go_ret
        exact ⟨rfl, HB5.out⟩
      · have hu2 := HUA.out ha
        clear ha HUA
        rw [← hu2]
        clear hu2
        go_wp2
        go_ret
        exact ⟨congrArg (fun b => Ending.returned (Value.bool b)) (beq_self_eq_true (u ++ sufB).toList), HB5.out⟩
    · have HB2 : Hid (Below w.heap.size w w2) := HB1.out.trans (hK.old (by omega) (by omega))
      have HL2 : Hid (LxT L y n 57383 ⟨#[]⟩ ⟨#[]⟩ (.iface 27 (.pointer (some ⟨D, 0, none⟩))) w2) := hL2
      have Ht : Hid (tokOf T.data.toList = none) := ht
      obtain ⟨h0, hh⟩ := hA
      have hem : T.toList.isEmpty = false := by rw [isEmpty_iff]; exact decide_eq_false (by omega)
      have hh2 : ((T[0].toNat : Int) == 35) = false := by rw [bne_iff_ne] at hh; rw [beq_eq_false_iff_ne]; exact hh
      have HDg : Hid (Dg D n t w2) := hDg
      obtain ⟨g0, g1, g2⟩ := hDg.cells
      clear hK hL2 ht hh hDg
      go_wp2_with (first | (go_at_call 9; refine (zzerr_some L D _ _ _ _ _ _ _ _ _ _ _ _ _ _ _ HL2.out).mono ?_; rintro e w' ⟨rfl, hw⟩; replace hw := hw.symm; subst hw) | (go_at_call 10; refine (zzerror_had L D m _ _ _ _ _ _ _ _ _ _ _ _ _ _ _ HL2.out).mono ?_; rintro e w' ⟨rfl, hw⟩; replace hw := hw.symm; subst hw))
      refine (skipBlanks_any s w2 (by omega)).mono ?_
      rw [HT.out]
      rintro e w' ⟨rfl, hw⟩
      replace hw := hw.symm
      subst hw
      go_wp2_with fail
      refine (modelToken_any T w2 (by omega) h0).mono ?_
      rintro e w4 ⟨htk, hb4⟩
      have HB4 : Hid (Below w.heap.size w w4) := HB2.out.trans (hb4.mono (by have := HB2.out.size; omega))
      have HDg4 := HDg.out.below hb4
      obtain ⟨g0b, g1b, g2b⟩ := HDg4.cells
      clear g0 g1 g2 HDg4 HDg
      obtain ⟨y', rfl⟩ : ∃ y', e = .returned (.tuple #[.int .i64 57383, .string ⟨#[]⟩, .string ⟨#[]⟩, .string y', .bool true]) := by
        rcases htk with ⟨t', j', x', y', e1, e2⟩ | ⟨y', e1, e2⟩
        · rw [Ht.out] at e1; cases e1
        · exact ⟨y', e2⟩
      clear htk hb4
      go_wp2
      go_ret
      exact ⟨rfl, HB4.out⟩
set_option maxRecDepth 100000 in
set_option maxHeartbeats 1000000 in
theorem law_big (s m : ByteArray) (n : Int) (w : World) (h : ¬ ((s.size : Int) ≤ 524288 ∧ (m.size : Int) ≤ 524288)) :
    Calls Tryz.prog 3 #[.string s, .int .i64 n, .string m] w fun e w' => e = .returned (.bool true) ∧ Below w.heap.size w w' := by
  by_cases h1 : (524288 : Int) < (s.size : Int)
  · clear h
    go_enter Tryz.func3, Tryz.ntmps3
    go_wp2_with (go_at_call 5; refine (bytes_big _ _ _ _).mono ?_; rintro e w' ⟨⟨b, rfl⟩, hw⟩; replace hw := hw.symm; subst hw)
    all_goals
      go_ret
      exact ⟨rfl, Below.refl _ _⟩
  · have h2 : (524288 : Int) < (m.size : Int) := by omega
    have h3 : (s.size : Int) ≤ 524288 := by omega
    clear h
    go_enter Tryz.func3, Tryz.ntmps3
    go_wp2_with (go_at_call 5; refine (bytes_big _ _ _ _).mono ?_; rintro e w' ⟨⟨b, rfl⟩, hw⟩; replace hw := hw.symm; subst hw)
    all_goals
      go_ret
      exact ⟨rfl, Below.refl _ _⟩
/-- THE LAW answers true at every input, and nothing that was there is turned. -/
theorem law_any (F : Interp) (s m : ByteArray) (n : Int) (w : World) (hE : Env F w) :
    Calls Tryz.prog 3 #[.string s, .int .i64 n, .string m] w fun e w' => e = .returned (.bool true) ∧ Below w.heap.size w w' := by
  by_cases h : (s.size : Int) ≤ 524288 ∧ (m.size : Int) ≤ 524288
  · exact law_small F s m n w hE h.1 h.2
  · exact law_big s m n w h
end Go.Proofs.Qxb6613210aGreatFmt
