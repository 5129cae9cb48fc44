import Derived.Test.Qxb6613210aGreatFmtW15
import Derived.Test.Qxb6613210aGreatFmtPlain7
import Derived.Deep.CutBlock
import Derived.Deep.CutRange
import Derived.Handy
import Derived.Lib.TrimU
namespace Go.Proofs.Qxb6613210aGreatFmt
open Go.RowKit Pl Go.Extern.Stop Go.Stop Go.Extern
set_option maxRecDepth 100000 in
set_option maxHeartbeats 2000000 in
theorem scan_no (L : Nat) (n : Int) (c0 c4 c5 c6 c7 c8 c9 c10 c11 c12 c13 c14 : Value) (s T : ByteArray) (w : World)
    (hL : Lx L c0 (.string s) (.int .i64 n) (.bool true) c4 c5 c6 c7 c8 c9 c10 c11 c12 c13 c14 w) (hT : s.extract (runEnd isBl s.data.toList 0) s.size = T) (hA : NoAhead T) :
    Calls Tryz.prog 31 #[.pointer (some ⟨L, 0, none⟩)] w fun e w' => e = .returned (.tuple #[.agg #[.int .i64 0, .int .i64 0, .string ⟨#[]⟩, .string ⟨#[]⟩], .bool false]) ∧ Kept L w w' ∧ Lx L c0 (.string T) (.int .i64 n) (.bool true) c4 c5 c6 c7 c8 c9 c10 c11 c12 c13 c14 w' := by
  have k1 := hL.at1.1
  have k2 := hL.at2.1
  have z1 := hL.at1.2
  have hlt := hL.lt
  have HL : Hid (Lx L c0 (.string s) (.int .i64 n) (.bool true) c4 c5 c6 c7 c8 c9 c10 c11 c12 c13 c14 w) := hL
  have HT : Hid (s.extract (runEnd isBl s.data.toList 0) s.size = T) := hT
  have HA : Hid (NoAhead T) := hA
  clear hL hT hA
  go_enter Tryz.func31, Tryz.ntmps31
  go_wp2_with fail
  refine wp_loop_rounds 1 ?_
  rw [rounds_succ]
  go_wp2_with fail
  refine (tokenAhead_no s T _ HT.out HA.out).mono ?_
  rintro e w1 ⟨rfl, hb⟩
  have hK1 : Kept L w w1 := ((Kept.refl L w).alloc _).trans (Kept.of_below hb)
  have hL1 := (HL.out.alloc _).below hb
  have k1b := hL1.at1.1
  have z1b := hL1.at1.2
  have k3b := hL1.at3.1
  have hlt1 := hL1.lt
  have hR1 : Rx w.heap.size w1 := (Rx.new w _ _ _ _).kept (Kept.of_below (L := L) hb) (by omega)
  obtain ⟨⟨r0, q0⟩, ⟨r1, q1⟩, ⟨r2, q2⟩, ⟨r3, q3⟩⟩ := hR1.cells
  obtain ⟨y0, y1, y2, y3⟩ := hR1.frozen
  have HK1 : Hid (Kept L w w1) := hK1
  have HL1 : Hid (Lx L c0 (.string s) (.int .i64 n) (.bool true) c4 c5 c6 c7 c8 c9 c10 c11 c12 c13 c14 w1) := hL1
  clear hK1 hL1 hR1 hb
  go_wp2
  refine bodyPost_ret (v := .tuple #[.agg #[.int .i64 0, .int .i64 0, .string ⟨#[]⟩, .string ⟨#[]⟩], .bool false]) (by simp [results, Tryz.results31, go_sem, q0, q1, q2, q3]) rfl ?_
  exact ⟨rfl, (HK1.out.set 1 _).put4 (Nat.le_refl _) _ _ _ _, (HL1.out.set1 _).put4 (by omega) _ _ _ _⟩
theorem dec_pos (T : ByteArray) (h : 0 < T.size) : 1 ≤ (Lib.decodeGo T).2 := by
  unfold Lib.decodeGo; rw [if_neg (by omega)]; exact Lib.width_pos T 0
theorem dec_le (T : ByteArray) (h : 0 < T.size) : (Lib.decodeGo T).2 ≤ T.size := by
  unfold Lib.decodeGo; rw [if_neg (by omega)]; exact Lib.width_le T h
set_option maxHeartbeats 1000000 in
theorem msg_any (a b c : ByteArray) (w : World) (ha : a.size ≤ 1000) (hb : b.size ≤ 1000) (hc : c.size ≤ 1000) : Calls Tryz.prog 57 #[.string a, .string b, .string c] w fun e w' => (∃ u, e = .returned (.string u)) ∧ w' = w := by
  go_enter Tryz.func57, Tryz.ntmps57
  go_wp2
  go_ret
  exact ⟨⟨_, rfl⟩, rfl⟩
theorem unseen_any (a : ByteArray) (w : World) (ha : a.size ≤ 1000) : Calls Tryz.prog 47 #[.string a] w fun e w' => (∃ u, e = .returned (.string u)) ∧ w' = w := by
  go_enter Tryz.func47, Tryz.ntmps47
  go_wp2_with (go_at_call 57; refine (msg_any _ _ _ _ ha (by decide) (by decide)).mono ?_; rintro e w' ⟨⟨u, rfl⟩, hw⟩; replace hw := hw.symm; subst hw)
  go_ret
  exact ⟨⟨u, rfl⟩, rfl⟩
theorem idx_q (s : ByteArray) (i : Int) (h : Lib.indexByte s.data.toList 34 = i) (w : World) : Calls Tryz.prog 33 #[.string s, .int .u8 34] w fun e w' => e = .returned (.int .i64 i) ∧ w' = w :=
  (Tryz.strings_IndexByte s 34 w).mono fun _ _ hh => ⟨by rw [hh.1]; exact congrArg (fun x => Ending.returned (Value.int .i64 x)) h, hh.2⟩
theorem hp_dev (s : ByteArray) (b : Bool) (h : Lib.hasPrefix s.data.toList [45, 100, 101, 118, 105, 99, 101] = b) (w : World) : Calls Tryz.prog 42 #[.string s, .string ⟨#[45, 100, 101, 118, 105, 99, 101]⟩] w fun e w' => e = .returned (.bool b) ∧ w' = w :=
  (Tryz.strings_HasPrefix s ⟨#[45, 100, 101, 118, 105, 99, 101]⟩ w).mono fun _ _ hh => ⟨by rw [hh.1]; exact congrArg (fun x => Ending.returned (Value.bool x)) h, hh.2⟩
/-- Not 'pseudo-device': in the walk's own tests. -/
def PdNo (T : ByteArray) (J : Nat) : Prop :=
  ((T.extract 0 J).toList == [112, 115, 101, 117, 100, 111]) = false ∨
  (J = 6 ∧ 6 ≤ T.size ∧ ((T.extract 0 6).toList == [112, 115, 101, 117, 100, 111]) = true ∧ Lib.hasPrefix (T.extract 6 T.size).data.toList [45, 100, 101, 118, 105, 99, 101] = false) ∨
  (J = 6 ∧ 6 ≤ T.size ∧ ((T.extract 0 6).toList == [112, 115, 101, 117, 100, 111]) = true ∧ Lib.hasPrefix (T.extract 6 T.size).data.toList [45, 100, 101, 118, 105, 99, 101] = true ∧ ((13 : Int) == (T.size : Int)) = false ∧ ∃ h : 13 < T.size, isLet T[13] = true)
set_option maxRecDepth 100000 in
set_option maxHeartbeats 2000000 in
theorem scan_num (F : Interp) (L : Nat) (n : Int) (c0 c4 c5 c6 c7 c8 c9 c10 c11 c12 c13 c14 : Value) (s T : ByteArray) (w0 w : World) (hE : Env F w0) (hB0 : Below w0.heap.size w0 w) (hL0 : w0.heap.size ≤ L)
    (hL : Lx L c0 (.string s) (.int .i64 n) (.bool true) c4 c5 c6 c7 c8 c9 c10 c11 c12 c13 c14 w) (hT : s.extract (runEnd isBl s.data.toList 0) s.size = T) (hA : Ahead T) (hs : T.size ≤ 1048576) (h0 : 0 < T.size) (hl : isLet T[0] = false) (hq : ((T[0].toNat : Int) == 34) = false) (hd : isDig T[0] = true) :
    Calls Tryz.prog 31 #[.pointer (some ⟨L, 0, none⟩)] w fun e w' => LexOut (tokOf T.data.toList) T n L c0 (.bool true) c4 c5 c6 c7 c8 c9 c10 c11 c12 c13 c14 w e w' := by
  have h0' : (0 : Int) < (T.size : Int) := by omega
  have HZ : Hid (T.data.toList.length = T.size) := size_list T
  have HTk : Hid (tokOf T.data.toList = numTok T.data.toList) := by
    unfold Hid
    exact tok_num _ (by rw [head_list T h0]; exact hl) (by rw [head_list T h0]; rw [beq_eq_false_iff_ne] at hq; omega) (by rw [head_list T h0]; exact hd)
  have HV : Hid (Env F w0) := hE
  have HB0 : Hid (Below w0.heap.size w0 w) := hB0
  have HL0 : Hid (w0.heap.size ≤ L) := hL0
  clear hE hB0 hL0
  have k1 := hL.at1.1
  have z1 := hL.at1.2
  have hlt := hL.lt
  have HL : Hid (Lx L c0 (.string s) (.int .i64 n) (.bool true) c4 c5 c6 c7 c8 c9 c10 c11 c12 c13 c14 w) := hL
  have HT : Hid (s.extract (runEnd isBl s.data.toList 0) s.size = T) := hT
  have HA : Hid (Ahead T) := hA
  clear hL hT hA
  go_enter Tryz.func31, Tryz.ntmps31
  go_upto_block 0 with fail
  go_cut [4] from 19 to 70 (fun b wd => b = .bool true ∧ Kept L w wd ∧ Lx L c0 (.string T) (.int .i64 n) (.bool true) c4 c5 c6 c7 c8 c9 c10 c11 c12 c13 c14 wd ∧ Rx w.heap.size wd)
  case first =>
    go_wp2_with fail
    refine wp_loop_rounds 1 ?_
    rw [rounds_succ]
    go_wp2_with fail
    refine (tokenAhead_yes s T _ HT.out HA.out).mono ?_
    rintro e w1 ⟨rfl, hb⟩
    have hK1 : Kept L w w1 := ((Kept.refl L w).alloc _).trans (Kept.of_below hb)
    have hL1 := (HL.out.alloc _).below hb
    have k1b := hL1.at1.1
    have z1b := hL1.at1.2
    have hlt1 := hL1.lt
    have hR1 : Rx w.heap.size w1 := (Rx.new w _ _ _ _).kept (Kept.of_below (L := L) hb) (by omega)
    have HR1 : Hid (Rx w.heap.size w1) := hR1
    have HK1 : Hid (Kept L w w1) := hK1
    have HL1 : Hid (Lx L c0 (.string s) (.int .i64 n) (.bool true) c4 c5 c6 c7 c8 c9 c10 c11 c12 c13 c14 w1) := hL1
    clear hK1 hL1 hR1 hb
    go_wp2_with fail
    go_meet
    case rel => exact ⟨rfl, HK1.out.set 1 _, HL1.out.set1 _, HR1.out.set (by simp; omega) _⟩
  case rest =>
    obtain ⟨rfl, hK1, hL1, hR1⟩ := hcut
    have k1b := hL1.at1.1
    have z1b := hL1.at1.2
    have k2b := hL1.at2.1
    have hlt1 := hL1.lt
    obtain ⟨⟨r0, q0⟩, ⟨r1, q1⟩, ⟨r2, q2⟩, ⟨r3, q3⟩⟩ := hR1.cells
    obtain ⟨y0, y1, y2, y3⟩ := hR1.frozen
    have hN1 := hR1.lt
    have HR1 : Hid (Rx w.heap.size wc) := hR1
    have HK1 : Hid (Kept L w wc) := hK1
    have HL1 : Hid (Lx L c0 (.string T) (.int .i64 n) (.bool true) c4 c5 c6 c7 c8 c9 c10 c11 c12 c13 c14 wc) := hL1
    have HE1 : Hid (Env F wc) := HV.out.below (HB0.out.trans (HK1.out.old HL0.out HB0.out.size))
    clear hK1 hL1 hR1
    go_wp2_with (first | (go_at_call 43; refine (let2_any _ _).mono ?_; rintro e w' ⟨rfl, hw⟩; replace hw := hw.symm; subst hw) | (go_at_call 45; refine (dig2_any _ _).mono ?_; rintro e w' ⟨rfl, hw⟩; replace hw := hw.symm; subst hw))
    refine (number_any F L n c0 (.bool true) c4 c5 c6 c7 c8 c9 c10 c11 c12 c13 c14 T w0 _ HV.out (HB0.out.trans (HK1.out.old HL0.out HB0.out.size)) HL0.out HL1.out hs h0 hd).mono ?_
    rintro e w2 hX
    rcases hX with ⟨t, j, x, y, ht, rfl, hK2, hL2⟩ | ⟨D, t, y, ht, rfl, hK2, hD, hL2, hDt⟩
    · have hR2 : Rx w.heap.size w2 := HR1.out.kept hK2 (by omega)
      have hlt2 := hL2.lt
      obtain ⟨⟨x0, p0⟩, ⟨x1, p1⟩, ⟨x2, p2⟩, ⟨x3, p3⟩⟩ := hR2.cells
      obtain ⟨v0, v1, v2, v3⟩ := hR2.frozen
      have HK2 : Hid (Kept L w w2) := HK1.out.trans hK2
      have HL2 : Hid (Lx L c0 (.string y) (.int .i64 n) (.bool true) c4 c5 c6 c7 c8 c9 c10 c11 c12 c13 c14 w2) := hL2
      have Ht : Hid (numTok T.data.toList = some (t, j)) := ht
      clear hK2 hL2 ht hR2
      go_wp2
      refine bodyPost_ret (v := .tuple #[.agg #[.int .i64 t, .int .i64 n, .string (T.extract 0 j), .string x], .bool true]) (by simp [results, Tryz.results31, go_sem, p0, p1, p2, p3]) rfl ?_
      exact Or.inl ⟨t, j, x, y, HTk.out.trans Ht.out, rfl, HK2.out.put4 (Nat.le_refl _) _ _ _ _, HL2.out.put4 (by omega) _ _ _ _⟩
    · have hR2 : Rx w.heap.size w2 := HR1.out.kept hK2 (by omega)
      have hlt2 := hL2.lt
      obtain ⟨⟨x0, p0⟩, ⟨x1, p1⟩, ⟨x2, p2⟩, ⟨x3, p3⟩⟩ := hR2.cells
      obtain ⟨v0, v1, v2, v3⟩ := hR2.frozen
      have HK2 : Hid (Kept L w w2) := HK1.out.trans hK2
      have HL2 : Hid (Lx L c0 (.string y) (.int .i64 n) (.bool true) c4 c5 c6 c7 c8 c9 c10 c11 c12 c13 (.iface 27 (.pointer (some ⟨D, 0, none⟩))) w2) := hL2
      have Ht : Hid (numTok T.data.toList = none) := ht
      have HDt : Hid (w2.heap[D]? = some (.cells #[.string ⟨#[]⟩, .int .i64 n, .string t] 30 (0, 0))) := hDt
      have hsz := HK1.out.size
      clear hK2 hL2 ht hR2 hDt
      go_wp2
      refine bodyPost_ret (v := .tuple #[.agg #[.int .i64 57383, .int .i64 n, .string ⟨#[]⟩, .string ⟨#[]⟩], .bool true]) (by simp [results, Tryz.results31, go_sem, p0, p1, p2, p3]) rfl ?_
      refine Or.inr ⟨D, t, y, HTk.out.trans Ht.out, rfl, HK2.out.put4 (Nat.le_refl _) _ _ _ _, by omega, HL2.out.put4 (by omega) _ _ _ _, ?_⟩
      rw [heap_put4 (by omega)]; exact HDt.out
set_option maxRecDepth 100000 in
set_option maxHeartbeats 2000000 in
theorem scan_word (F : Interp) (L : Nat) (n : Int) (c0 c4 c5 c6 c7 c8 c9 c10 c11 c12 c13 c14 : Value) (s T : ByteArray) (w0 w : World) (hE : Env F w0) (hB0 : Below w0.heap.size w0 w) (hL0 : w0.heap.size ≤ L)
    (hL : Lx L c0 (.string s) (.int .i64 n) (.bool true) c4 c5 c6 c7 c8 c9 c10 c11 c12 c13 c14 w) (hT : s.extract (runEnd isBl s.data.toList 0) s.size = T) (hA : Ahead T) (hs : T.size ≤ 1048576) (h0 : 0 < T.size) (hl : isLet T[0] = true) (J : Nat) (HJ : Hid (runEnd isLet T.data.toList 1 = J)) (hJ1 : 1 ≤ J) (hJ2 : J ≤ T.size) (HTk : Hid (tokOf T.data.toList = some (keyTok (T.data.toList.take J), J))) (HNp : Hid (T.data.toList.take J ≠ pdL)) (hno : PdNo T J) :
    Calls Tryz.prog 31 #[.pointer (some ⟨L, 0, none⟩)] w fun e w' => LexOut (tokOf T.data.toList) T n L c0 (.bool true) c4 c5 c6 c7 c8 c9 c10 c11 c12 c13 c14 w e w' := by
  have h0' : (0 : Int) < (T.size : Int) := by omega
  have HZ : Hid (T.data.toList.length = T.size) := size_list T
  have HW : Hid (PdNo T J) := hno
  clear hno
  have HV : Hid (Env F w0) := hE
  have HB0 : Hid (Below w0.heap.size w0 w) := hB0
  have HL0 : Hid (w0.heap.size ≤ L) := hL0
  clear hE hB0 hL0
  have k1 := hL.at1.1
  have z1 := hL.at1.2
  have hlt := hL.lt
  have HL : Hid (Lx L c0 (.string s) (.int .i64 n) (.bool true) c4 c5 c6 c7 c8 c9 c10 c11 c12 c13 c14 w) := hL
  have HT : Hid (s.extract (runEnd isBl s.data.toList 0) s.size = T) := hT
  have HA : Hid (Ahead T) := hA
  clear hL hT hA
  go_enter Tryz.func31, Tryz.ntmps31
  go_upto_block 0 with fail
  go_cut [4] from 19 to 70 (fun b wd => b = .bool true ∧ Kept L w wd ∧ Lx L c0 (.string T) (.int .i64 n) (.bool true) c4 c5 c6 c7 c8 c9 c10 c11 c12 c13 c14 wd ∧ Rx w.heap.size wd)
  case first =>
    go_wp2_with fail
    refine wp_loop_rounds 1 ?_
    rw [rounds_succ]
    go_wp2_with fail
    refine (tokenAhead_yes s T _ HT.out HA.out).mono ?_
    rintro e w1 ⟨rfl, hb⟩
    have hK1 : Kept L w w1 := ((Kept.refl L w).alloc _).trans (Kept.of_below hb)
    have hL1 := (HL.out.alloc _).below hb
    have k1b := hL1.at1.1
    have z1b := hL1.at1.2
    have hlt1 := hL1.lt
    have hR1 : Rx w.heap.size w1 := (Rx.new w _ _ _ _).kept (Kept.of_below (L := L) hb) (by omega)
    have HR1 : Hid (Rx w.heap.size w1) := hR1
    have HK1 : Hid (Kept L w w1) := hK1
    have HL1 : Hid (Lx L c0 (.string s) (.int .i64 n) (.bool true) c4 c5 c6 c7 c8 c9 c10 c11 c12 c13 c14 w1) := hL1
    clear hK1 hL1 hR1 hb
    go_wp2_with fail
    go_meet
    case rel => exact ⟨rfl, HK1.out.set 1 _, HL1.out.set1 _, HR1.out.set (by simp; omega) _⟩
  case rest =>
    obtain ⟨rfl, hK1, hL1, hR1⟩ := hcut
    have k1b := hL1.at1.1
    have z1b := hL1.at1.2
    have k2b := hL1.at2.1
    have hlt1 := hL1.lt
    obtain ⟨⟨r0, q0⟩, ⟨r1, q1⟩, ⟨r2, q2⟩, ⟨r3, q3⟩⟩ := hR1.cells
    obtain ⟨y0, y1, y2, y3⟩ := hR1.frozen
    have hN1 := hR1.lt
    have HR1 : Hid (Rx w.heap.size wc) := hR1
    have HK1 : Hid (Kept L w wc) := hK1
    have HL1 : Hid (Lx L c0 (.string T) (.int .i64 n) (.bool true) c4 c5 c6 c7 c8 c9 c10 c11 c12 c13 c14 wc) := hL1
    have HE1 : Hid (Env F wc) := HV.out.below (HB0.out.trans (HK1.out.old HL0.out HB0.out.size))
    clear hK1 hL1 hR1
    go_upto_block 3 with (go_at_call 43; refine (let2_any _ _).mono ?_; rintro e w' ⟨rfl, hw⟩; replace hw := hw.symm; subst hw)
    go_cut [10] from 80 to 91 (fun j wd => j = .int .i64 J ∧ wd = wc)
    case first =>
      go_wp2_with fail
      go_loop [10] (fun i => ∃ k : Nat, 1 ≤ k ∧ k ≤ T.size ∧ i = .int .i64 k ∧ Hid (runEnd isLet T.data.toList k = J)) (fun i => T.size - (intOf i).toNat)
      case atStart => exact ⟨1, by omega, by omega, by go_num, HJ⟩
      case round =>
        obtain ⟨k, hk2, hk, rfl, hr⟩ := hrel
        by_cases hlt2 : k < T.size
        · cases hb : isLet T[k] with
          | true =>
            have hr2 : Hid (runEnd isLet T.data.toList (k + 1) = J) := by
              unfold Hid
              exact (runEnd_step _ _ _ (by rw [HZ.out]; exact hlt2) (by rw [getElem_list T k hlt2]; exact hb)).symm.trans hr.out
            go_wp2_with (go_at_call 43; refine (let2_any _ _).mono ?_; rintro e w' ⟨rfl, hw⟩; replace hw := hw.symm; subst hw)
            go_round
            case rel => exact ⟨k + 1, by omega, by omega, by go_num, hr2⟩
            case measure => simp [intOf]; omega
          | false =>
            have hr2 : Hid (k = J) := by
              unfold Hid
              exact (runEnd_stop _ _ _ (by rw [HZ.out]; exact hlt2) (by rw [getElem_list T k hlt2]; exact hb)).symm.trans hr.out
            go_wp2_with (go_at_call 43; refine (let2_any _ _).mono ?_; rintro e w' ⟨rfl, hw⟩; replace hw := hw.symm; subst hw)
            go_meet
            case rel => exact ⟨by rw [hr2.out]; try rfl, rfl⟩
        · have hr2 : Hid (k = J) := by
            unfold Hid
            exact (runEnd_end _ _ _ (by rw [HZ.out]; omega)).symm.trans hr.out
          go_wp2_with fail
          go_meet
          case rel => exact ⟨by rw [hr2.out]; try rfl, rfl⟩
    case rest =>
      obtain ⟨rfl, rfl⟩ := hcut
      go_upto_region 20 with fail
      go_cut [116] from 92 to 115 (fun b wd => b = .bool false ∧ wd = wc)
      case first =>
        rcases HW.out with h1 | ⟨rfl, h1, h2, h3⟩ | ⟨rfl, h1, h2, h3, h4, h5, h6⟩
        all_goals go_wp2_with (first | (go_at_call 43; refine (let2_any _ _).mono ?_; rintro e w' ⟨rfl, hw⟩; replace hw := hw.symm; subst hw) | (go_at_call 42; refine (hp_dev _ _ h3 _).mono ?_; rintro e w' ⟨rfl, hw⟩; replace hw := hw.symm; subst hw))
        all_goals
          go_meet
          case rel => exact ⟨rfl, rfl⟩
      case rest =>
        obtain ⟨rfl, rfl⟩ := hcut
        obtain ⟨bm, hm1, hm2, hm3⟩ := HV.out.kw
        have hmc : (wc.setCell ⟨L, 1, none⟩ (.string (T.extract J T.size))).cell? ⟨0, 0, none⟩ = some (.map (some bm)) := by
          have h1 : 0 < w0.heap.size := World.block_lt_of_cell? _ _ hm1
          have h2 := HL0.out
          have h3 := HB0.out.size
          rw [World.cell?_of_block (w := wc) (Below.heap_setCell _ _ _ _ (by simp; omega)), HK1.out.cell (by simp; omega) (by simp; omega), HB0.out.cell h1]; exact hm1
        have hmb : (wc.setCell ⟨L, 1, none⟩ (.string (T.extract J T.size))).heap[bm]? = w0.heap[bm]? := by
          have h2 := HL0.out
          have h3 := HB0.out.size
          rw [Below.heap_setCell _ _ _ _ (by simp; omega), HK1.out.block bm (by omega) (by omega), HB0.out.block bm hm2]
        have hlk := hm3 _ hmb (T.extract 0 J) (by rw [size_extract T 0 J (by omega) (by omega)]; omega)
        clear hm1 hm2 hm3 hmb
        rcases hlk with ⟨hk1, hk2⟩ | ⟨v, hk1, hk2⟩
        · have HTk2 : Hid (tokOf T.data.toList = some (57379, J)) := by unfold Hid; rw [extract0_list] at hk1; rw [HTk.out, kw_none _ hk1]
          clear hk1
          go_wp2
          refine bodyPost_ret (v := .tuple #[.agg #[.int .i64 57379, .int .i64 n, .string (T.extract 0 J), .string (T.extract 0 J)], .bool true]) (by simp [results, Tryz.results31, go_sem, q0, q1, q2, q3]) rfl ?_
          exact Or.inl ⟨57379, J, _, _, HTk2.out, rfl, (HK1.out.set 1 _).put4 (Nat.le_refl _) _ _ _ _, (HL1.out.set1 _).put4 (by omega) _ _ _ _⟩
        · have HTk2 : Hid (tokOf T.data.toList = some (v, J)) := by unfold Hid; rw [extract0_list] at hk1; rw [HTk.out, kw_some _ HNp.out v hk1]
          clear hk1
          go_wp2
          refine bodyPost_ret (v := .tuple #[.agg #[.int .i64 v, .int .i64 n, .string (T.extract 0 J), .string (T.extract 0 J)], .bool true]) (by simp [results, Tryz.results31, go_sem, q0, q1, q2, q3]) rfl ?_
          exact Or.inl ⟨v, J, _, _, HTk2.out, rfl, (HK1.out.set 1 _).put4 (Nat.le_refl _) _ _ _ _, (HL1.out.set1 _).put4 (by omega) _ _ _ _⟩
set_option maxRecDepth 100000 in
set_option maxHeartbeats 2000000 in
theorem scan_pd (F : Interp) (L : Nat) (n : Int) (c0 c4 c5 c6 c7 c8 c9 c10 c11 c12 c13 c14 : Value) (s T : ByteArray) (w0 w : World) (hE : Env F w0) (hB0 : Below w0.heap.size w0 w) (hL0 : w0.heap.size ≤ L)
    (hL : Lx L c0 (.string s) (.int .i64 n) (.bool true) c4 c5 c6 c7 c8 c9 c10 c11 c12 c13 c14 w) (hT : s.extract (runEnd isBl s.data.toList 0) s.size = T) (hA : Ahead T) (hs : T.size ≤ 1048576) (h0 : 0 < T.size) (hl : isLet T[0] = true) (HJ : Hid (runEnd isLet T.data.toList 1 = 6)) (h13 : 13 ≤ T.size) (HTk : Hid (tokOf T.data.toList = some (57370, 13))) (HNp : Hid (T.data.toList.take 13 = pdL)) (h2 : ((T.extract 0 6).toList == [112, 115, 101, 117, 100, 111]) = true) (h3 : Lib.hasPrefix (T.extract 6 T.size).data.toList [45, 100, 101, 118, 105, 99, 101] = true) (hno : ((13 : Int) == (T.size : Int)) = true ∨ (((13 : Int) == (T.size : Int)) = false ∧ ∃ h : 13 < T.size, isLet T[13] = false)) :
    Calls Tryz.prog 31 #[.pointer (some ⟨L, 0, none⟩)] w fun e w' => LexOut (tokOf T.data.toList) T n L c0 (.bool true) c4 c5 c6 c7 c8 c9 c10 c11 c12 c13 c14 w e w' := by
  have h0' : (0 : Int) < (T.size : Int) := by omega
  have HZ : Hid (T.data.toList.length = T.size) := size_list T
  have HW : Hid (((13 : Int) == (T.size : Int)) = true ∨ (((13 : Int) == (T.size : Int)) = false ∧ ∃ h : 13 < T.size, isLet T[13] = false)) := hno
  clear hno
  have HV : Hid (Env F w0) := hE
  have HB0 : Hid (Below w0.heap.size w0 w) := hB0
  have HL0 : Hid (w0.heap.size ≤ L) := hL0
  clear hE hB0 hL0
  have k1 := hL.at1.1
  have z1 := hL.at1.2
  have hlt := hL.lt
  have HL : Hid (Lx L c0 (.string s) (.int .i64 n) (.bool true) c4 c5 c6 c7 c8 c9 c10 c11 c12 c13 c14 w) := hL
  have HT : Hid (s.extract (runEnd isBl s.data.toList 0) s.size = T) := hT
  have HA : Hid (Ahead T) := hA
  clear hL hT hA
  go_enter Tryz.func31, Tryz.ntmps31
  go_upto_block 0 with fail
  go_cut [4] from 19 to 70 (fun b wd => b = .bool true ∧ Kept L w wd ∧ Lx L c0 (.string T) (.int .i64 n) (.bool true) c4 c5 c6 c7 c8 c9 c10 c11 c12 c13 c14 wd ∧ Rx w.heap.size wd)
  case first =>
    go_wp2_with fail
    refine wp_loop_rounds 1 ?_
    rw [rounds_succ]
    go_wp2_with fail
    refine (tokenAhead_yes s T _ HT.out HA.out).mono ?_
    rintro e w1 ⟨rfl, hb⟩
    have hK1 : Kept L w w1 := ((Kept.refl L w).alloc _).trans (Kept.of_below hb)
    have hL1 := (HL.out.alloc _).below hb
    have k1b := hL1.at1.1
    have z1b := hL1.at1.2
    have hlt1 := hL1.lt
    have hR1 : Rx w.heap.size w1 := (Rx.new w _ _ _ _).kept (Kept.of_below (L := L) hb) (by omega)
    have HR1 : Hid (Rx w.heap.size w1) := hR1
    have HK1 : Hid (Kept L w w1) := hK1
    have HL1 : Hid (Lx L c0 (.string s) (.int .i64 n) (.bool true) c4 c5 c6 c7 c8 c9 c10 c11 c12 c13 c14 w1) := hL1
    clear hK1 hL1 hR1 hb
    go_wp2_with fail
    go_meet
    case rel => exact ⟨rfl, HK1.out.set 1 _, HL1.out.set1 _, HR1.out.set (by simp; omega) _⟩
  case rest =>
    obtain ⟨rfl, hK1, hL1, hR1⟩ := hcut
    have k1b := hL1.at1.1
    have z1b := hL1.at1.2
    have k2b := hL1.at2.1
    have hlt1 := hL1.lt
    obtain ⟨⟨r0, q0⟩, ⟨r1, q1⟩, ⟨r2, q2⟩, ⟨r3, q3⟩⟩ := hR1.cells
    obtain ⟨y0, y1, y2, y3⟩ := hR1.frozen
    have hN1 := hR1.lt
    have HR1 : Hid (Rx w.heap.size wc) := hR1
    have HK1 : Hid (Kept L w wc) := hK1
    have HL1 : Hid (Lx L c0 (.string T) (.int .i64 n) (.bool true) c4 c5 c6 c7 c8 c9 c10 c11 c12 c13 c14 wc) := hL1
    have HE1 : Hid (Env F wc) := HV.out.below (HB0.out.trans (HK1.out.old HL0.out HB0.out.size))
    clear hK1 hL1 hR1
    go_upto_block 3 with (go_at_call 43; refine (let2_any _ _).mono ?_; rintro e w' ⟨rfl, hw⟩; replace hw := hw.symm; subst hw)
    go_cut [10] from 80 to 91 (fun j wd => j = .int .i64 6 ∧ wd = wc)
    case first =>
      go_wp2_with fail
      go_loop [10] (fun i => ∃ k : Nat, 1 ≤ k ∧ k ≤ T.size ∧ i = .int .i64 k ∧ Hid (runEnd isLet T.data.toList k = 6)) (fun i => T.size - (intOf i).toNat)
      case atStart => exact ⟨1, by omega, by omega, by go_num, HJ⟩
      case round =>
        obtain ⟨k, hk2, hk, rfl, hr⟩ := hrel
        by_cases hlt2 : k < T.size
        · cases hb : isLet T[k] with
          | true =>
            have hr2 : Hid (runEnd isLet T.data.toList (k + 1) = 6) := by
              unfold Hid
              exact (runEnd_step _ _ _ (by rw [HZ.out]; exact hlt2) (by rw [getElem_list T k hlt2]; exact hb)).symm.trans hr.out
            go_wp2_with (go_at_call 43; refine (let2_any _ _).mono ?_; rintro e w' ⟨rfl, hw⟩; replace hw := hw.symm; subst hw)
            go_round
            case rel => exact ⟨k + 1, by omega, by omega, by go_num, hr2⟩
            case measure => simp [intOf]; omega
          | false =>
            have hr2 : Hid (k = 6) := by
              unfold Hid
              exact (runEnd_stop _ _ _ (by rw [HZ.out]; exact hlt2) (by rw [getElem_list T k hlt2]; exact hb)).symm.trans hr.out
            go_wp2_with (go_at_call 43; refine (let2_any _ _).mono ?_; rintro e w' ⟨rfl, hw⟩; replace hw := hw.symm; subst hw)
            go_meet
            case rel => exact ⟨by rw [hr2.out]; try rfl, rfl⟩
        · have hr2 : Hid (k = 6) := by
            unfold Hid
            exact (runEnd_end _ _ _ (by rw [HZ.out]; omega)).symm.trans hr.out
          go_wp2_with fail
          go_meet
          case rel => exact ⟨by rw [hr2.out]; try rfl, rfl⟩
    case rest =>
      obtain ⟨rfl, rfl⟩ := hcut
      go_upto_region 20 with fail
      go_cut [116] from 92 to 115 (fun b wd => b = .bool true ∧ wd = wc)
      case first =>
        rcases HW.out with h1 | ⟨h4, h5, h6⟩
        all_goals go_wp2_with (first | (go_at_call 43; refine (let2_any _ _).mono ?_; rintro e w' ⟨rfl, hw⟩; replace hw := hw.symm; subst hw) | (go_at_call 42; refine (hp_dev _ _ h3 _).mono ?_; rintro e w' ⟨rfl, hw⟩; replace hw := hw.symm; subst hw))
        all_goals
          go_meet
          case rel => exact ⟨rfl, rfl⟩
      case rest =>
        obtain ⟨rfl, rfl⟩ := hcut
        obtain ⟨bm, hm1, hm2, hm3⟩ := HV.out.kw
        have hmc : (wc.setCell ⟨L, 1, none⟩ (.string (T.extract 13 T.size))).cell? ⟨0, 0, none⟩ = some (.map (some bm)) := by
          have h1 : 0 < w0.heap.size := World.block_lt_of_cell? _ _ hm1
          have h2 := HL0.out
          have h3 := HB0.out.size
          rw [World.cell?_of_block (w := wc) (Below.heap_setCell _ _ _ _ (by simp; omega)), HK1.out.cell (by simp; omega) (by simp; omega), HB0.out.cell h1]; exact hm1
        have hmb : (wc.setCell ⟨L, 1, none⟩ (.string (T.extract 13 T.size))).heap[bm]? = w0.heap[bm]? := by
          have h2 := HL0.out
          have h3 := HB0.out.size
          rw [Below.heap_setCell _ _ _ _ (by simp; omega), HK1.out.block bm (by omega) (by omega), HB0.out.block bm hm2]
        have hlk := hm3 _ hmb (T.extract 0 13) (by rw [size_extract T 0 13 (by omega) (by omega)]; omega)
        clear hm1 hm2 hm3 hmb
        rcases hlk with ⟨hk1, hk2⟩ | ⟨v, hk1, hk2⟩
        · have HTk2 : Hid (tokOf T.data.toList = some (57379, 13)) := by rw [extract0_list, HNp.out, kw_pd] at hk1; cases hk1
          clear hk1
          go_wp2
          refine bodyPost_ret (v := .tuple #[.agg #[.int .i64 57379, .int .i64 n, .string (T.extract 0 13), .string (T.extract 0 13)], .bool true]) (by simp [results, Tryz.results31, go_sem, q0, q1, q2, q3]) rfl ?_
          exact Or.inl ⟨57379, 13, _, _, HTk2.out, rfl, (HK1.out.set 1 _).put4 (Nat.le_refl _) _ _ _ _, (HL1.out.set1 _).put4 (by omega) _ _ _ _⟩
        · have HTk2 : Hid (tokOf T.data.toList = some (v, 13)) := by unfold Hid; rw [extract0_list, HNp.out, kw_pd] at hk1; rw [HTk.out, Option.some.inj hk1]
          clear hk1
          go_wp2
          refine bodyPost_ret (v := .tuple #[.agg #[.int .i64 v, .int .i64 n, .string (T.extract 0 13), .string (T.extract 0 13)], .bool true]) (by simp [results, Tryz.results31, go_sem, q0, q1, q2, q3]) rfl ?_
          exact Or.inl ⟨v, 13, _, _, HTk2.out, rfl, (HK1.out.set 1 _).put4 (Nat.le_refl _) _ _ _ _, (HL1.out.set1 _).put4 (by omega) _ _ _ _⟩
set_option maxRecDepth 100000 in
set_option maxHeartbeats 2000000 in
theorem scan_qbad (F : Interp) (L : Nat) (n : Int) (c0 c4 c5 c6 c7 c8 c9 c10 c11 c12 c13 c14 : Value) (s T : ByteArray) (w0 w : World) (hE : Env F w0) (hB0 : Below w0.heap.size w0 w) (hL0 : w0.heap.size ≤ L)
    (hL : Lx L c0 (.string s) (.int .i64 n) (.bool true) c4 c5 c6 c7 c8 c9 c10 c11 c12 c13 c14 w) (hT : s.extract (runEnd isBl s.data.toList 0) s.size = T) (hA : Ahead T) (hs : T.size ≤ 1048576) (h0 : 0 < T.size) (hl : isLet T[0] = false) (hq : ((T[0].toNat : Int) == 34) = true) (HTk : Hid (tokOf T.data.toList = none)) (HI : Hid (Lib.indexByte (T.extract 1 T.size).data.toList 34 = -1)) :
    Calls Tryz.prog 31 #[.pointer (some ⟨L, 0, none⟩)] w fun e w' => LexOut (tokOf T.data.toList) T n L c0 (.bool true) c4 c5 c6 c7 c8 c9 c10 c11 c12 c13 c14 w e w' := by
  have h0' : (0 : Int) < (T.size : Int) := by omega
  have HZ : Hid (T.data.toList.length = T.size) := size_list T
  have HV : Hid (Env F w0) := hE
  have HB0 : Hid (Below w0.heap.size w0 w) := hB0
  have HL0 : Hid (w0.heap.size ≤ L) := hL0
  clear hE hB0 hL0
  have k1 := hL.at1.1
  have z1 := hL.at1.2
  have hlt := hL.lt
  have HL : Hid (Lx L c0 (.string s) (.int .i64 n) (.bool true) c4 c5 c6 c7 c8 c9 c10 c11 c12 c13 c14 w) := hL
  have HT : Hid (s.extract (runEnd isBl s.data.toList 0) s.size = T) := hT
  have HA : Hid (Ahead T) := hA
  clear hL hT hA
  go_enter Tryz.func31, Tryz.ntmps31
  go_upto_block 0 with fail
  go_cut [4] from 19 to 70 (fun b wd => b = .bool true ∧ Kept L w wd ∧ Lx L c0 (.string T) (.int .i64 n) (.bool true) c4 c5 c6 c7 c8 c9 c10 c11 c12 c13 c14 wd ∧ Rx w.heap.size wd)
  case first =>
    go_wp2_with fail
    refine wp_loop_rounds 1 ?_
    rw [rounds_succ]
    go_wp2_with fail
    refine (tokenAhead_yes s T _ HT.out HA.out).mono ?_
    rintro e w1 ⟨rfl, hb⟩
    have hK1 : Kept L w w1 := ((Kept.refl L w).alloc _).trans (Kept.of_below hb)
    have hL1 := (HL.out.alloc _).below hb
    have k1b := hL1.at1.1
    have z1b := hL1.at1.2
    have hlt1 := hL1.lt
    have hR1 : Rx w.heap.size w1 := (Rx.new w _ _ _ _).kept (Kept.of_below (L := L) hb) (by omega)
    have HR1 : Hid (Rx w.heap.size w1) := hR1
    have HK1 : Hid (Kept L w w1) := hK1
    have HL1 : Hid (Lx L c0 (.string s) (.int .i64 n) (.bool true) c4 c5 c6 c7 c8 c9 c10 c11 c12 c13 c14 w1) := hL1
    clear hK1 hL1 hR1 hb
    go_wp2_with fail
    go_meet
    case rel => exact ⟨rfl, HK1.out.set 1 _, HL1.out.set1 _, HR1.out.set (by simp; omega) _⟩
  case rest =>
    obtain ⟨rfl, hK1, hL1, hR1⟩ := hcut
    have k1b := hL1.at1.1
    have z1b := hL1.at1.2
    have k2b := hL1.at2.1
    have hlt1 := hL1.lt
    obtain ⟨⟨r0, q0⟩, ⟨r1, q1⟩, ⟨r2, q2⟩, ⟨r3, q3⟩⟩ := hR1.cells
    obtain ⟨y0, y1, y2, y3⟩ := hR1.frozen
    have hN1 := hR1.lt
    have HR1 : Hid (Rx w.heap.size wc) := hR1
    have HK1 : Hid (Kept L w wc) := hK1
    have HL1 : Hid (Lx L c0 (.string T) (.int .i64 n) (.bool true) c4 c5 c6 c7 c8 c9 c10 c11 c12 c13 c14 wc) := hL1
    have HE1 : Hid (Env F wc) := HV.out.below (HB0.out.trans (HK1.out.old HL0.out HB0.out.size))
    clear hK1 hL1 hR1
    go_wp2_with (first | (go_at_call 43; refine (let2_any _ _).mono ?_; rintro e w' ⟨rfl, hw⟩; replace hw := hw.symm; subst hw) | (go_at_call 33; refine (idx_q _ _ HI.out _).mono ?_; rintro e w' ⟨rfl, hw⟩; replace hw := hw.symm; subst hw))
    refine (fail_any L n c0 _ (.bool true) c4 c5 c6 c7 c8 c9 c10 c11 c12 c13 c14 fNam _ _ HL1.out (spf_fNam F _ HE1.out.ans)).mono ?_
    rintro e w2 ⟨rfl, D, t, hK2, hD, hL2, hDt⟩
    have hR2 : Rx w.heap.size w2 := (HR1.out).kept hK2 (by omega)
    have hlt2 := hL2.lt
    obtain ⟨⟨x0, p0⟩, ⟨x1, p1⟩, ⟨x2, p2⟩, ⟨x3, p3⟩⟩ := hR2.cells
    obtain ⟨v0, v1, v2, v3⟩ := hR2.frozen
    have HK2 : Hid (Kept L w w2) := (HK1.out).trans hK2
    have HL2 : Hid (Lx L c0 (.string T) (.int .i64 n) (.bool true) c4 c5 c6 c7 c8 c9 c10 c11 c12 c13 (.iface 27 (.pointer (some ⟨D, 0, none⟩))) w2) := hL2
    have HDt : Hid (w2.heap[D]? = some (.cells #[.string ⟨#[]⟩, .int .i64 n, .string t] 30 (0, 0))) := hDt
    have hsz := HK1.out.size
    have hDD : wc.heap.size ≤ D := hD
    clear hK2 hL2 hR2 hDt
    go_wp2
    refine bodyPost_ret (v := .tuple #[.agg #[.int .i64 57383, .int .i64 n, .string ⟨#[]⟩, .string ⟨#[]⟩], .bool true]) (by simp [results, Tryz.results31, go_sem, p0, p1, p2, p3]) rfl ?_
    refine Or.inr ⟨D, t, T, HTk.out, rfl, HK2.out.put4 (Nat.le_refl _) _ _ _ _, by omega, HL2.out.put4 (by omega) _ _ _ _, ?_⟩
    rw [heap_put4 (by omega)]; exact HDt.out
set_option maxRecDepth 100000 in
set_option maxHeartbeats 2000000 in
theorem scan_qgood (F : Interp) (L : Nat) (n : Int) (c0 c4 c5 c6 c7 c8 c9 c10 c11 c12 c13 c14 : Value) (s T : ByteArray) (w0 w : World) (hE : Env F w0) (hB0 : Below w0.heap.size w0 w) (hL0 : w0.heap.size ≤ L)
    (hL : Lx L c0 (.string s) (.int .i64 n) (.bool true) c4 c5 c6 c7 c8 c9 c10 c11 c12 c13 c14 w) (hT : s.extract (runEnd isBl s.data.toList 0) s.size = T) (hA : Ahead T) (hs : T.size ≤ 1048576) (h0 : 0 < T.size) (hl : isLet T[0] = false) (hq : ((T[0].toNat : Int) == 34) = true) (I : Nat) (hE2 : I + 1 < T.size) (HTk : Hid (tokOf T.data.toList = some (57379, I + 2))) (HI : Hid (Lib.indexByte (T.extract 1 T.size).data.toList 34 = (I : Int))) :
    Calls Tryz.prog 31 #[.pointer (some ⟨L, 0, none⟩)] w fun e w' => LexOut (tokOf T.data.toList) T n L c0 (.bool true) c4 c5 c6 c7 c8 c9 c10 c11 c12 c13 c14 w e w' := by
  have h0' : (0 : Int) < (T.size : Int) := by omega
  have HZ : Hid (T.data.toList.length = T.size) := size_list T
  have HV : Hid (Env F w0) := hE
  have HB0 : Hid (Below w0.heap.size w0 w) := hB0
  have HL0 : Hid (w0.heap.size ≤ L) := hL0
  clear hE hB0 hL0
  have k1 := hL.at1.1
  have z1 := hL.at1.2
  have hlt := hL.lt
  have HL : Hid (Lx L c0 (.string s) (.int .i64 n) (.bool true) c4 c5 c6 c7 c8 c9 c10 c11 c12 c13 c14 w) := hL
  have HT : Hid (s.extract (runEnd isBl s.data.toList 0) s.size = T) := hT
  have HA : Hid (Ahead T) := hA
  clear hL hT hA
  go_enter Tryz.func31, Tryz.ntmps31
  go_upto_block 0 with fail
  go_cut [4] from 19 to 70 (fun b wd => b = .bool true ∧ Kept L w wd ∧ Lx L c0 (.string T) (.int .i64 n) (.bool true) c4 c5 c6 c7 c8 c9 c10 c11 c12 c13 c14 wd ∧ Rx w.heap.size wd)
  case first =>
    go_wp2_with fail
    refine wp_loop_rounds 1 ?_
    rw [rounds_succ]
    go_wp2_with fail
    refine (tokenAhead_yes s T _ HT.out HA.out).mono ?_
    rintro e w1 ⟨rfl, hb⟩
    have hK1 : Kept L w w1 := ((Kept.refl L w).alloc _).trans (Kept.of_below hb)
    have hL1 := (HL.out.alloc _).below hb
    have k1b := hL1.at1.1
    have z1b := hL1.at1.2
    have hlt1 := hL1.lt
    have hR1 : Rx w.heap.size w1 := (Rx.new w _ _ _ _).kept (Kept.of_below (L := L) hb) (by omega)
    have HR1 : Hid (Rx w.heap.size w1) := hR1
    have HK1 : Hid (Kept L w w1) := hK1
    have HL1 : Hid (Lx L c0 (.string s) (.int .i64 n) (.bool true) c4 c5 c6 c7 c8 c9 c10 c11 c12 c13 c14 w1) := hL1
    clear hK1 hL1 hR1 hb
    go_wp2_with fail
    go_meet
    case rel => exact ⟨rfl, HK1.out.set 1 _, HL1.out.set1 _, HR1.out.set (by simp; omega) _⟩
  case rest =>
    obtain ⟨rfl, hK1, hL1, hR1⟩ := hcut
    have k1b := hL1.at1.1
    have z1b := hL1.at1.2
    have k2b := hL1.at2.1
    have hlt1 := hL1.lt
    obtain ⟨⟨r0, q0⟩, ⟨r1, q1⟩, ⟨r2, q2⟩, ⟨r3, q3⟩⟩ := hR1.cells
    obtain ⟨y0, y1, y2, y3⟩ := hR1.frozen
    have hN1 := hR1.lt
    have HR1 : Hid (Rx w.heap.size wc) := hR1
    have HK1 : Hid (Kept L w wc) := hK1
    have HL1 : Hid (Lx L c0 (.string T) (.int .i64 n) (.bool true) c4 c5 c6 c7 c8 c9 c10 c11 c12 c13 c14 wc) := hL1
    have HE1 : Hid (Env F wc) := HV.out.below (HB0.out.trans (HK1.out.old HL0.out HB0.out.size))
    clear hK1 hL1 hR1
    go_wp2_with (first | (go_at_call 43; refine (let2_any _ _).mono ?_; rintro e w' ⟨rfl, hw⟩; replace hw := hw.symm; subst hw) | (go_at_call 33; refine (idx_q _ _ HI.out _).mono ?_; rintro e w' ⟨rfl, hw⟩; replace hw := hw.symm; subst hw))
    go_region
    go_wp2
    refine bodyPost_ret (v := .tuple #[.agg #[.int .i64 57379, .int .i64 n, .string (T.extract 0 (I + 2)), .string (T.extract 1 (I + 1))], .bool true]) (by simp [results, Tryz.results31, go_sem, q0, q1, q2, q3]) rfl ?_
    exact Or.inl ⟨57379, I + 2, _, _, HTk.out, rfl, ((HK1.out.set 1 _).drew).put4 (Nat.le_refl _) _ _ _ _, ((HL1.out.set1 _).drew).put4 (by omega) _ _ _ _⟩
set_option maxRecDepth 100000 in
set_option maxHeartbeats 2000000 in
theorem scan_punct (F : Interp) (L : Nat) (n : Int) (c0 c4 c5 c6 c7 c8 c9 c10 c11 c12 c13 c14 : Value) (s T : ByteArray) (w0 w : World) (hE : Env F w0) (hB0 : Below w0.heap.size w0 w) (hL0 : w0.heap.size ≤ L)
    (hL : Lx L c0 (.string s) (.int .i64 n) (.bool true) c4 c5 c6 c7 c8 c9 c10 c11 c12 c13 c14 w) (hT : s.extract (runEnd isBl s.data.toList 0) s.size = T) (hA : Ahead T) (hs : T.size ≤ 1048576) (h0 : 0 < T.size) (hl : isLet T[0] = false) (hq : ((T[0].toNat : Int) == 34) = false) (hd : isDig T[0] = false) (v : Int) (hv : pnLook T[0] = some v) (HTk : Hid (tokOf T.data.toList = some (v, 1))) :
    Calls Tryz.prog 31 #[.pointer (some ⟨L, 0, none⟩)] w fun e w' => LexOut (tokOf T.data.toList) T n L c0 (.bool true) c4 c5 c6 c7 c8 c9 c10 c11 c12 c13 c14 w e w' := by
  have h0' : (0 : Int) < (T.size : Int) := by omega
  have HZ : Hid (T.data.toList.length = T.size) := size_list T
  have HV : Hid (Env F w0) := hE
  have HB0 : Hid (Below w0.heap.size w0 w) := hB0
  have HL0 : Hid (w0.heap.size ≤ L) := hL0
  clear hE hB0 hL0
  have k1 := hL.at1.1
  have z1 := hL.at1.2
  have hlt := hL.lt
  have HL : Hid (Lx L c0 (.string s) (.int .i64 n) (.bool true) c4 c5 c6 c7 c8 c9 c10 c11 c12 c13 c14 w) := hL
  have HT : Hid (s.extract (runEnd isBl s.data.toList 0) s.size = T) := hT
  have HA : Hid (Ahead T) := hA
  clear hL hT hA
  go_enter Tryz.func31, Tryz.ntmps31
  go_upto_block 0 with fail
  go_cut [4] from 19 to 70 (fun b wd => b = .bool true ∧ Kept L w wd ∧ Lx L c0 (.string T) (.int .i64 n) (.bool true) c4 c5 c6 c7 c8 c9 c10 c11 c12 c13 c14 wd ∧ Rx w.heap.size wd)
  case first =>
    go_wp2_with fail
    refine wp_loop_rounds 1 ?_
    rw [rounds_succ]
    go_wp2_with fail
    refine (tokenAhead_yes s T _ HT.out HA.out).mono ?_
    rintro e w1 ⟨rfl, hb⟩
    have hK1 : Kept L w w1 := ((Kept.refl L w).alloc _).trans (Kept.of_below hb)
    have hL1 := (HL.out.alloc _).below hb
    have k1b := hL1.at1.1
    have z1b := hL1.at1.2
    have hlt1 := hL1.lt
    have hR1 : Rx w.heap.size w1 := (Rx.new w _ _ _ _).kept (Kept.of_below (L := L) hb) (by omega)
    have HR1 : Hid (Rx w.heap.size w1) := hR1
    have HK1 : Hid (Kept L w w1) := hK1
    have HL1 : Hid (Lx L c0 (.string s) (.int .i64 n) (.bool true) c4 c5 c6 c7 c8 c9 c10 c11 c12 c13 c14 w1) := hL1
    clear hK1 hL1 hR1 hb
    go_wp2_with fail
    go_meet
    case rel => exact ⟨rfl, HK1.out.set 1 _, HL1.out.set1 _, HR1.out.set (by simp; omega) _⟩
  case rest =>
    obtain ⟨rfl, hK1, hL1, hR1⟩ := hcut
    have k1b := hL1.at1.1
    have z1b := hL1.at1.2
    have k2b := hL1.at2.1
    have hlt1 := hL1.lt
    obtain ⟨⟨r0, q0⟩, ⟨r1, q1⟩, ⟨r2, q2⟩, ⟨r3, q3⟩⟩ := hR1.cells
    obtain ⟨y0, y1, y2, y3⟩ := hR1.frozen
    have hN1 := hR1.lt
    have HR1 : Hid (Rx w.heap.size wc) := hR1
    have HK1 : Hid (Kept L w wc) := hK1
    have HL1 : Hid (Lx L c0 (.string T) (.int .i64 n) (.bool true) c4 c5 c6 c7 c8 c9 c10 c11 c12 c13 c14 wc) := hL1
    have HE1 : Hid (Env F wc) := HV.out.below (HB0.out.trans (HK1.out.old HL0.out HB0.out.size))
    clear hK1 hL1 hR1
    obtain ⟨bm, hm1, hm2, hm3⟩ := HV.out.pn
    have hmc : wc.cell? ⟨1, 0, none⟩ = some (.map (some bm)) := by
      have h1 : 1 < w0.heap.size := World.block_lt_of_cell? _ _ hm1
      have h2 := HL0.out
      have h3 := HB0.out.size
      rw [HK1.out.cell (by simp; omega) (by simp; omega), HB0.out.cell h1]; exact hm1
    have hmb : wc.heap[bm]? = w0.heap[bm]? := by
      have h2 := HL0.out
      have h3 := HB0.out.size
      rw [HK1.out.block bm (by omega) (by omega), HB0.out.block bm hm2]
    have hlk := hm3 _ hmb T[0]
    clear hm1 hm2 hm3 hmb
    rcases hlk with ⟨hk1, hk2⟩ | ⟨v', hk1, hk2⟩
    · rw [hv] at hk1; cases hk1
    · rw [hv] at hk1
      have := Option.some.inj hk1
      subst this
      clear hk1 hv
      go_wp2_with (first | (go_at_call 43; refine (let2_any _ _).mono ?_; rintro e w' ⟨rfl, hw⟩; replace hw := hw.symm; subst hw) | (go_at_call 45; refine (dig2_any _ _).mono ?_; rintro e w' ⟨rfl, hw⟩; replace hw := hw.symm; subst hw))
      go_region
      go_wp2
      refine bodyPost_ret (v := .tuple #[.agg #[.int .i64 v, .int .i64 n, .string (T.extract 0 1), .string ⟨#[]⟩], .bool true]) (by simp [results, Tryz.results31, go_sem, q0, q1, q2, q3]) rfl ?_
      exact Or.inl ⟨v, 1, _, _, HTk.out, rfl, ((HK1.out.set 1 _).drew).put4 (Nat.le_refl _) _ _ _ _, ((HL1.out.set1 _).drew).put4 (by omega) _ _ _ _⟩
set_option maxRecDepth 100000 in
set_option maxHeartbeats 2000000 in
theorem scan_cr (F : Interp) (L : Nat) (n : Int) (c0 c4 c5 c6 c7 c8 c9 c10 c11 c12 c13 c14 : Value) (s T : ByteArray) (w0 w : World) (hE : Env F w0) (hB0 : Below w0.heap.size w0 w) (hL0 : w0.heap.size ≤ L)
    (hL : Lx L c0 (.string s) (.int .i64 n) (.bool true) c4 c5 c6 c7 c8 c9 c10 c11 c12 c13 c14 w) (hT : s.extract (runEnd isBl s.data.toList 0) s.size = T) (hA : Ahead T) (hs : T.size ≤ 1048576) (h0 : 0 < T.size) (hl : isLet T[0] = false) (hq : ((T[0].toNat : Int) == 34) = false) (hd : isDig T[0] = false) (hv : pnLook T[0] = none) (HTk : Hid (tokOf T.data.toList = none)) (hcr : (T.toList == [13]) = true) :
    Calls Tryz.prog 31 #[.pointer (some ⟨L, 0, none⟩)] w fun e w' => LexOut (tokOf T.data.toList) T n L c0 (.bool true) c4 c5 c6 c7 c8 c9 c10 c11 c12 c13 c14 w e w' := by
  have h0' : (0 : Int) < (T.size : Int) := by omega
  have HZ : Hid (T.data.toList.length = T.size) := size_list T
  have HV : Hid (Env F w0) := hE
  have HB0 : Hid (Below w0.heap.size w0 w) := hB0
  have HL0 : Hid (w0.heap.size ≤ L) := hL0
  clear hE hB0 hL0
  have k1 := hL.at1.1
  have z1 := hL.at1.2
  have hlt := hL.lt
  have HL : Hid (Lx L c0 (.string s) (.int .i64 n) (.bool true) c4 c5 c6 c7 c8 c9 c10 c11 c12 c13 c14 w) := hL
  have HT : Hid (s.extract (runEnd isBl s.data.toList 0) s.size = T) := hT
  have HA : Hid (Ahead T) := hA
  clear hL hT hA
  go_enter Tryz.func31, Tryz.ntmps31
  go_upto_block 0 with fail
  go_cut [4] from 19 to 70 (fun b wd => b = .bool true ∧ Kept L w wd ∧ Lx L c0 (.string T) (.int .i64 n) (.bool true) c4 c5 c6 c7 c8 c9 c10 c11 c12 c13 c14 wd ∧ Rx w.heap.size wd)
  case first =>
    go_wp2_with fail
    refine wp_loop_rounds 1 ?_
    rw [rounds_succ]
    go_wp2_with fail
    refine (tokenAhead_yes s T _ HT.out HA.out).mono ?_
    rintro e w1 ⟨rfl, hb⟩
    have hK1 : Kept L w w1 := ((Kept.refl L w).alloc _).trans (Kept.of_below hb)
    have hL1 := (HL.out.alloc _).below hb
    have k1b := hL1.at1.1
    have z1b := hL1.at1.2
    have hlt1 := hL1.lt
    have hR1 : Rx w.heap.size w1 := (Rx.new w _ _ _ _).kept (Kept.of_below (L := L) hb) (by omega)
    have HR1 : Hid (Rx w.heap.size w1) := hR1
    have HK1 : Hid (Kept L w w1) := hK1
    have HL1 : Hid (Lx L c0 (.string s) (.int .i64 n) (.bool true) c4 c5 c6 c7 c8 c9 c10 c11 c12 c13 c14 w1) := hL1
    clear hK1 hL1 hR1 hb
    go_wp2_with fail
    go_meet
    case rel => exact ⟨rfl, HK1.out.set 1 _, HL1.out.set1 _, HR1.out.set (by simp; omega) _⟩
  case rest =>
    obtain ⟨rfl, hK1, hL1, hR1⟩ := hcut
    have k1b := hL1.at1.1
    have z1b := hL1.at1.2
    have k2b := hL1.at2.1
    have hlt1 := hL1.lt
    obtain ⟨⟨r0, q0⟩, ⟨r1, q1⟩, ⟨r2, q2⟩, ⟨r3, q3⟩⟩ := hR1.cells
    obtain ⟨y0, y1, y2, y3⟩ := hR1.frozen
    have hN1 := hR1.lt
    have HR1 : Hid (Rx w.heap.size wc) := hR1
    have HK1 : Hid (Kept L w wc) := hK1
    have HL1 : Hid (Lx L c0 (.string T) (.int .i64 n) (.bool true) c4 c5 c6 c7 c8 c9 c10 c11 c12 c13 c14 wc) := hL1
    have HE1 : Hid (Env F wc) := HV.out.below (HB0.out.trans (HK1.out.old HL0.out HB0.out.size))
    clear hK1 hL1 hR1
    obtain ⟨bm, hm1, hm2, hm3⟩ := HV.out.pn
    have hmc : wc.cell? ⟨1, 0, none⟩ = some (.map (some bm)) := by
      have h1 : 1 < w0.heap.size := World.block_lt_of_cell? _ _ hm1
      have h2 := HL0.out
      have h3 := HB0.out.size
      rw [HK1.out.cell (by simp; omega) (by simp; omega), HB0.out.cell h1]; exact hm1
    have hmb : wc.heap[bm]? = w0.heap[bm]? := by
      have h2 := HL0.out
      have h3 := HB0.out.size
      rw [HK1.out.block bm (by omega) (by omega), HB0.out.block bm hm2]
    have hlk := hm3 _ hmb T[0]
    clear hm1 hm2 hm3 hmb
    rcases hlk with ⟨hk1, hk2⟩ | ⟨v, hk1, hk2⟩
    rotate_left
    · rw [hv] at hk1; cases hk1
    · clear hk1 hv
      go_wp2_with (first | (go_at_call 43; refine (let2_any _ _).mono ?_; rintro e w' ⟨rfl, hw⟩; replace hw := hw.symm; subst hw) | (go_at_call 45; refine (dig2_any _ _).mono ?_; rintro e w' ⟨rfl, hw⟩; replace hw := hw.symm; subst hw) | (go_at_call 47; refine (unseen_any _ _ (by decide)).mono ?_; rintro e w' ⟨⟨u, rfl⟩, hw⟩; replace hw := hw.symm; subst hw))
      refine (fail_any L n c0 _ (.bool true) c4 c5 c6 c7 c8 c9 c10 c11 c12 c13 c14 fStr _ _ (HL1.out.alloc _) (spf_fStr F u wc.heap.size _ HE1.out.ans (by first | go_simp | (simp [World.cell?_alloc_new]; done)))).mono ?_
      rintro e w2 ⟨rfl, D, t, hK2, hD, hL2, hDt⟩
      have hR2 : Rx w.heap.size w2 := (HR1.out.alloc _).kept hK2 (by omega)
      have hlt2 := hL2.lt
      obtain ⟨⟨x0, p0⟩, ⟨x1, p1⟩, ⟨x2, p2⟩, ⟨x3, p3⟩⟩ := hR2.cells
      obtain ⟨v0, v1, v2, v3⟩ := hR2.frozen
      have HK2 : Hid (Kept L w w2) := (HK1.out.alloc _).trans hK2
      have HL2 : Hid (Lx L c0 (.string T) (.int .i64 n) (.bool true) c4 c5 c6 c7 c8 c9 c10 c11 c12 c13 (.iface 27 (.pointer (some ⟨D, 0, none⟩))) w2) := hL2
      have HDt : Hid (w2.heap[D]? = some (.cells #[.string ⟨#[]⟩, .int .i64 n, .string t] 30 (0, 0))) := hDt
      have hsz := HK1.out.size
      have hDD : wc.heap.size ≤ D := by simp at hD; omega
      clear hK2 hL2 hR2 hDt
      go_wp2
      refine bodyPost_ret (v := .tuple #[.agg #[.int .i64 57383, .int .i64 n, .string ⟨#[]⟩, .string ⟨#[]⟩], .bool true]) (by simp [results, Tryz.results31, go_sem, p0, p1, p2, p3]) rfl ?_
      refine Or.inr ⟨D, t, T, HTk.out, rfl, HK2.out.put4 (Nat.le_refl _) _ _ _ _, by omega, HL2.out.put4 (by omega) _ _ _ _, ?_⟩
      rw [heap_put4 (by omega)]; exact HDt.out
set_option maxRecDepth 100000 in
set_option maxHeartbeats 2000000 in
theorem scan_oth (F : Interp) (L : Nat) (n : Int) (c0 c4 c5 c6 c7 c8 c9 c10 c11 c12 c13 c14 : Value) (s T : ByteArray) (w0 w : World) (hE : Env F w0) (hB0 : Below w0.heap.size w0 w) (hL0 : w0.heap.size ≤ L)
    (hL : Lx L c0 (.string s) (.int .i64 n) (.bool true) c4 c5 c6 c7 c8 c9 c10 c11 c12 c13 c14 w) (hT : s.extract (runEnd isBl s.data.toList 0) s.size = T) (hA : Ahead T) (hs : T.size ≤ 1048576) (h0 : 0 < T.size) (hl : isLet T[0] = false) (hq : ((T[0].toNat : Int) == 34) = false) (hd : isDig T[0] = false) (hv : pnLook T[0] = none) (HTk : Hid (tokOf T.data.toList = none)) (hcr : (T.toList == [13]) = false) :
    Calls Tryz.prog 31 #[.pointer (some ⟨L, 0, none⟩)] w fun e w' => LexOut (tokOf T.data.toList) T n L c0 (.bool true) c4 c5 c6 c7 c8 c9 c10 c11 c12 c13 c14 w e w' := by
  have h0' : (0 : Int) < (T.size : Int) := by omega
  have HZ : Hid (T.data.toList.length = T.size) := size_list T
  have HV : Hid (Env F w0) := hE
  have HB0 : Hid (Below w0.heap.size w0 w) := hB0
  have HL0 : Hid (w0.heap.size ≤ L) := hL0
  clear hE hB0 hL0
  have k1 := hL.at1.1
  have z1 := hL.at1.2
  have hlt := hL.lt
  have HL : Hid (Lx L c0 (.string s) (.int .i64 n) (.bool true) c4 c5 c6 c7 c8 c9 c10 c11 c12 c13 c14 w) := hL
  have HT : Hid (s.extract (runEnd isBl s.data.toList 0) s.size = T) := hT
  have HA : Hid (Ahead T) := hA
  clear hL hT hA
  go_enter Tryz.func31, Tryz.ntmps31
  go_upto_block 0 with fail
  go_cut [4] from 19 to 70 (fun b wd => b = .bool true ∧ Kept L w wd ∧ Lx L c0 (.string T) (.int .i64 n) (.bool true) c4 c5 c6 c7 c8 c9 c10 c11 c12 c13 c14 wd ∧ Rx w.heap.size wd)
  case first =>
    go_wp2_with fail
    refine wp_loop_rounds 1 ?_
    rw [rounds_succ]
    go_wp2_with fail
    refine (tokenAhead_yes s T _ HT.out HA.out).mono ?_
    rintro e w1 ⟨rfl, hb⟩
    have hK1 : Kept L w w1 := ((Kept.refl L w).alloc _).trans (Kept.of_below hb)
    have hL1 := (HL.out.alloc _).below hb
    have k1b := hL1.at1.1
    have z1b := hL1.at1.2
    have hlt1 := hL1.lt
    have hR1 : Rx w.heap.size w1 := (Rx.new w _ _ _ _).kept (Kept.of_below (L := L) hb) (by omega)
    have HR1 : Hid (Rx w.heap.size w1) := hR1
    have HK1 : Hid (Kept L w w1) := hK1
    have HL1 : Hid (Lx L c0 (.string s) (.int .i64 n) (.bool true) c4 c5 c6 c7 c8 c9 c10 c11 c12 c13 c14 w1) := hL1
    clear hK1 hL1 hR1 hb
    go_wp2_with fail
    go_meet
    case rel => exact ⟨rfl, HK1.out.set 1 _, HL1.out.set1 _, HR1.out.set (by simp; omega) _⟩
  case rest =>
    obtain ⟨rfl, hK1, hL1, hR1⟩ := hcut
    have k1b := hL1.at1.1
    have z1b := hL1.at1.2
    have k2b := hL1.at2.1
    have hlt1 := hL1.lt
    obtain ⟨⟨r0, q0⟩, ⟨r1, q1⟩, ⟨r2, q2⟩, ⟨r3, q3⟩⟩ := hR1.cells
    obtain ⟨y0, y1, y2, y3⟩ := hR1.frozen
    have hN1 := hR1.lt
    have HR1 : Hid (Rx w.heap.size wc) := hR1
    have HK1 : Hid (Kept L w wc) := hK1
    have HL1 : Hid (Lx L c0 (.string T) (.int .i64 n) (.bool true) c4 c5 c6 c7 c8 c9 c10 c11 c12 c13 c14 wc) := hL1
    have HE1 : Hid (Env F wc) := HV.out.below (HB0.out.trans (HK1.out.old HL0.out HB0.out.size))
    clear hK1 hL1 hR1
    obtain ⟨bm, hm1, hm2, hm3⟩ := HV.out.pn
    have hmc : wc.cell? ⟨1, 0, none⟩ = some (.map (some bm)) := by
      have h1 : 1 < w0.heap.size := World.block_lt_of_cell? _ _ hm1
      have h2 := HL0.out
      have h3 := HB0.out.size
      rw [HK1.out.cell (by simp; omega) (by simp; omega), HB0.out.cell h1]; exact hm1
    have hmb : wc.heap[bm]? = w0.heap[bm]? := by
      have h2 := HL0.out
      have h3 := HB0.out.size
      rw [HK1.out.block bm (by omega) (by omega), HB0.out.block bm hm2]
    have hlk := hm3 _ hmb T[0]
    clear hm1 hm2 hm3 hmb
    rcases hlk with ⟨hk1, hk2⟩ | ⟨v, hk1, hk2⟩
    rotate_left
    · rw [hv] at hk1; cases hk1
    · clear hk1 hv
      go_wp2_with (first | (go_at_call 43; refine (let2_any _ _).mono ?_; rintro e w' ⟨rfl, hw⟩; replace hw := hw.symm; subst hw) | (go_at_call 45; refine (dig2_any _ _).mono ?_; rintro e w' ⟨rfl, hw⟩; replace hw := hw.symm; subst hw))
      refine (Tryz.utf8_DecodeRuneInString T wc HE1.out.utf).mono ?_
      rintro e w3 ⟨rfl, hb⟩
      obtain ⟨q, m, hqm, hm1, hm2⟩ : ∃ q m, Lib.decodeGo T = (q, m) ∧ 1 ≤ m ∧ m ≤ T.size := ⟨_, _, rfl, dec_pos T h0, dec_le T h0⟩
      rw [hqm]
      have hm2' : (m : Int) ≤ (T.size : Int) := by omega
      have hL3 := HL1.out.below hb
      have hR3 : Rx w.heap.size w3 := HR1.out.kept (Kept.of_below (L := L) hb) (by omega)
      have hs3 : wc.heap.size ≤ w3.heap.size := hb.size
      have HK3 : Hid (Kept L w w3) := HK1.out.trans (Kept.of_below hb)
      have HE3 : Hid (Env F w3) := HE1.out.below hb
      have HL3 : Hid (Lx L c0 (.string T) (.int .i64 n) (.bool true) c4 c5 c6 c7 c8 c9 c10 c11 c12 c13 c14 w3) := hL3
      have HR3 : Hid (Rx w.heap.size w3) := hR3
      have hlt3 := hL3.lt
      clear hL3 hR3 hb hqm
      go_wp2_with fail
      refine (fail_any L n c0 _ (.bool true) c4 c5 c6 c7 c8 c9 c10 c11 c12 c13 c14 fChr _ _ (HL3.out.alloc _) (spf_fChr F (T.extract 0 m) w3.heap.size _ HE3.out.ans (by first | go_simp | (simp [World.cell?_alloc_new]; done)))).mono ?_
      rintro e w2 ⟨rfl, D, t, hK2, hD, hL2, hDt⟩
      have hR2 : Rx w.heap.size w2 := (HR3.out.alloc _).kept hK2 (by omega)
      have hlt2 := hL2.lt
      obtain ⟨⟨x0, p0⟩, ⟨x1, p1⟩, ⟨x2, p2⟩, ⟨x3, p3⟩⟩ := hR2.cells
      obtain ⟨v0, v1, v2, v3⟩ := hR2.frozen
      have HK2 : Hid (Kept L w w2) := (HK3.out.alloc _).trans hK2
      have HL2 : Hid (Lx L c0 (.string T) (.int .i64 n) (.bool true) c4 c5 c6 c7 c8 c9 c10 c11 c12 c13 (.iface 27 (.pointer (some ⟨D, 0, none⟩))) w2) := hL2
      have HDt : Hid (w2.heap[D]? = some (.cells #[.string ⟨#[]⟩, .int .i64 n, .string t] 30 (0, 0))) := hDt
      have hsz := HK1.out.size
      have hDD : wc.heap.size ≤ D := by simp at hD; omega
      clear hK2 hL2 hR2 hDt
      go_wp2
      refine bodyPost_ret (v := .tuple #[.agg #[.int .i64 57383, .int .i64 n, .string ⟨#[]⟩, .string ⟨#[]⟩], .bool true]) (by simp [results, Tryz.results31, go_sem, p0, p1, p2, p3]) rfl ?_
      refine Or.inr ⟨D, t, T, HTk.out, rfl, HK2.out.put4 (Nat.le_refl _) _ _ _ _, by omega, HL2.out.put4 (by omega) _ _ _ _, ?_⟩
      rw [heap_put4 (by omega)]; exact HDt.out
/-- (*lexer).scan, at every rest of a line. -/
theorem scan_any (F : Interp) (L : Nat) (n : Int) (c0 c4 c5 c6 c7 c8 c9 c10 c11 c12 c13 c14 : Value) (s T : ByteArray) (w0 w : World) (hE : Env F w0) (hB0 : Below w0.heap.size w0 w) (hL0 : w0.heap.size ≤ L)
    (hL : Lx L c0 (.string s) (.int .i64 n) (.bool true) c4 c5 c6 c7 c8 c9 c10 c11 c12 c13 c14 w) (hT : s.extract (runEnd isBl s.data.toList 0) s.size = T) (hs : s.size ≤ 1048576) :
    Calls Tryz.prog 31 #[.pointer (some ⟨L, 0, none⟩)] w fun e w' =>
      (NoAhead T ∧ e = .returned (.tuple #[.agg #[.int .i64 0, .int .i64 0, .string ⟨#[]⟩, .string ⟨#[]⟩], .bool false]) ∧ Kept L w w' ∧ Lx L c0 (.string T) (.int .i64 n) (.bool true) c4 c5 c6 c7 c8 c9 c10 c11 c12 c13 c14 w') ∨
      (Ahead T ∧ LexOut (tokOf T.data.toList) T n L c0 (.bool true) c4 c5 c6 c7 c8 c9 c10 c11 c12 c13 c14 w e w') := by
  have hTs : T.size ≤ 1048576 := by
    rw [← hT, ByteArray.size_extract]; omega
  by_cases hz : T.size = 0
  · exact (scan_no L n c0 c4 c5 c6 c7 c8 c9 c10 c11 c12 c13 c14 s T w hL hT (Or.inl hz)).mono fun e w' h => Or.inl ⟨Or.inl hz, h⟩
  · have h0 : 0 < T.size := by omega
    cases hh : ((T[0].toNat : Int) != 35) with
    | false => exact (scan_no L n c0 c4 c5 c6 c7 c8 c9 c10 c11 c12 c13 c14 s T w hL hT (Or.inr ⟨h0, hh⟩)).mono fun e w' h => Or.inl ⟨Or.inr ⟨h0, hh⟩, h⟩
    | true =>
      have hA : Ahead T := ⟨h0, hh⟩
      refine Calls.mono ?_ fun e w' h => Or.inr ⟨hA, h⟩
      have hhd := head_list T h0
      cases hl : isLet T[0] with
      | true =>
        obtain ⟨hJ1, hJ2⟩ := runEnd_le isLet T.data.toList 1 (by rw [size_list]; omega)
        rw [size_list] at hJ2
        rcases pd_split T h0 with ⟨hp, hj, h13, h2, h3, h4, h5⟩ | ⟨hp, hno⟩
        · exact scan_pd F L n c0 c4 c5 c6 c7 c8 c9 c10 c11 c12 c13 c14 s T w0 w hE hB0 hL0 hL hT hA hTs h0 hl hj h13 (tok_pd _ (by rw [hhd]; exact hl) hp) h4 h2 h3 h5
        · exact scan_word F L n c0 c4 c5 c6 c7 c8 c9 c10 c11 c12 c13 c14 s T w0 w hE hB0 hL0 hL hT hA hTs h0 hl _ rfl hJ1 hJ2 (tok_word _ (by rw [hhd]; exact hl) hp) (word_not_pd _) hno
      | false =>
        cases hq : ((T[0].toNat : Int) == 34) with
        | true =>
          have htk := tok_quote T.data.toList (by rw [hhd]; exact hl) (by rw [hhd]; rw [beq_iff_eq] at hq; omega)
          have hqa := quote_at T h0
          obtain ⟨hJ1, hJ2⟩ := runEnd_le nq T.data.toList 1 (by rw [size_list]; omega)
          by_cases he : runEnd nq T.data.toList 1 = T.data.toList.length
          · rw [if_pos he] at htk hqa
            exact scan_qbad F L n c0 c4 c5 c6 c7 c8 c9 c10 c11 c12 c13 c14 s T w0 w hE hB0 hL0 hL hT hA hTs h0 hl hq htk hqa
          · rw [if_neg he] at htk hqa
            rw [size_list] at hJ2 he
            obtain ⟨I, hI⟩ : ∃ I, runEnd nq T.data.toList 1 = I + 1 := ⟨runEnd nq T.data.toList 1 - 1, by omega⟩
            rw [hI] at htk hqa
            exact scan_qgood F L n c0 c4 c5 c6 c7 c8 c9 c10 c11 c12 c13 c14 s T w0 w hE hB0 hL0 hL hT hA hTs h0 hl hq I (by omega) htk (by unfold Hid; rw [hqa]; omega)
        | false =>
          have hq2 : (T.data.toList.headD 0).toNat ≠ 34 := by rw [hhd]; rw [beq_eq_false_iff_ne] at hq; omega
          cases hd : isDig T[0] with
          | true => exact scan_num F L n c0 c4 c5 c6 c7 c8 c9 c10 c11 c12 c13 c14 s T w0 w hE hB0 hL0 hL hT hA hTs h0 hl hq hd
          | false =>
            have htk := tok_else T.data.toList (by rw [hhd]; exact hl) hq2 (by rw [hhd]; exact hd)
            rw [hhd] at htk
            cases hv : pnLook T[0] with
            | some v => rw [hv] at htk; exact scan_punct F L n c0 c4 c5 c6 c7 c8 c9 c10 c11 c12 c13 c14 s T w0 w hE hB0 hL0 hL hT hA hTs h0 hl hq hd v hv htk
            | none =>
              rw [hv] at htk
              cases hcr : T.toList == [13] with
              | true => exact scan_cr F L n c0 c4 c5 c6 c7 c8 c9 c10 c11 c12 c13 c14 s T w0 w hE hB0 hL0 hL hT hA hTs h0 hl hq hd hv htk hcr
              | false => exact scan_oth F L n c0 c4 c5 c6 c7 c8 c9 c10 c11 c12 c13 c14 s T w0 w hE hB0 hL0 hL hT hA hTs h0 hl hq hd hv htk hcr
end Go.Proofs.Qxb6613210aGreatFmt
