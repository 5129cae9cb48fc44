import Derived.Test.Qxb6613210aGreatFmtW17
namespace Go.Proofs.Qxb6613210aGreatFmt
open Go.RowKit Pl Go.Extern.Stop Go.Stop Go.Extern
set_option maxRecDepth 100000 in
set_option maxHeartbeats 1000000 in
theorem new_any (s : ByteArray) (n : Int) (w : World) :
    Calls Tryz.prog 7 #[.string s, .int .i64 n] w fun e w' => e = .returned (.pointer (some ⟨w.heap.size, 0, none⟩)) ∧ Lx0 w.heap.size s n w' ∧ Below w.heap.size w w' ∧ w.heap.size < w'.heap.size := by
  go_enter Tryz.func7, Tryz.ntmps7
  go_wp2
  go_ret
  refine ⟨rfl, ?_, (Below.refl _ _).alloc (Nat.le_refl _) _, by simp⟩
  unfold Lx0 Lx
  show (w.heap.push _)[w.heap.size]? = _
  rw [Array.getElem?_push_size]
set_option maxRecDepth 100000 in
set_option maxHeartbeats 1000000 in
theorem zzlex_any (F : Interp) (L : Nat) (n : Int) (s T : ByteArray) (w0 w : World) (hE : Env F w0) (hB0 : Below w0.heap.size w0 w) (hL0 : w0.heap.size ≤ L)
    (hL : Lx0 L s n w) (hT : s.extract (runEnd isBl s.data.toList 0) s.size = T) (hs : s.size ≤ 1048576) :
    Calls Tryz.prog 8 #[.pointer (some ⟨L, 0, none⟩)] w fun e w' => LexPost L T n w e w' := by
  have hlt := Lx.lt hL
  have HC := fun (v0 v1 v2 v3 : Value) => lex_any F L w.heap.size n s T w0 w (w.alloc (.cells #[v0, v1, v2, v3] 58)) v0 v1 v2 v3 hE (hB0.trans ((Below.refl _ _).alloc hB0.size _)) hL0 (Lx.alloc hL _) hT hs ((Kept.refl L w).alloc _) (Nat.le_refl _) (by omega) (by show (w.heap.push _)[w.heap.size]? = _; rw [Array.getElem?_push_size])
  have HC2 : Hid (∀ (v0 v1 v2 v3 : Value), Calls Tryz.prog 22 #[.pointer (some ⟨L, 0, none⟩), .pointer (some ⟨w.heap.size, 0, none⟩)] (w.alloc (.cells #[v0, v1, v2, v3] 58)) fun e w' => LexPost L T n w e w') := HC
  clear HC hE hB0 hL hT
  go_enter Tryz.func8, Tryz.ntmps8
  go_wp2_with fail
  refine (HC2.out _ _ _ _).mono ?_
  rintro e w2 h
  obtain ⟨t, rfl⟩ : ∃ t, e = .returned (.int .i64 t) := by
    rcases h with ⟨_, h, _⟩ | ⟨_, t, _, _, _, _, h, _⟩ | ⟨_, _, _, _, _, h, _⟩
    · exact ⟨_, h⟩
    · exact ⟨_, h⟩
    · exact ⟨_, h⟩
  have HP : Hid (LexPost L T n w (.returned (.int .i64 t)) w2) := h
  clear h
  go_wp2
  go_ret
  exact HP.out
theorem as_nil (w : World) : (Instr.typeAssert .nilIface 54 27 true).run Tryz.prog w = .ok (.tuple #[.pointer none, .bool false]) w := by kernel_rfl
theorem as_diag (v : Value) (w : World) : (Instr.typeAssert (.iface 27 v) 54 27 true).run Tryz.prog w = .ok (.tuple #[v, .bool true]) w := by kernel_rfl
set_option maxRecDepth 100000 in
set_option maxHeartbeats 1000000 in
theorem zzerr_nil (L : Nat) (c0 c1 c2 c3 c4 c5 c6 c7 c8 c9 c10 c11 c12 c13 : Value) (w : World) (hL : Lx L c0 c1 c2 c3 c4 c5 c6 c7 c8 c9 c10 c11 c12 c13 .nilIface w) :
    Calls Tryz.prog 9 #[.pointer (some ⟨L, 0, none⟩)] w fun e w' => e = .returned (.pointer none) ∧ w' = w := by
  have k := hL.at14.1
  have ha := as_nil w
  clear hL
  go_enter Tryz.func9, Tryz.ntmps9
  go_wp2
  go_ret
  exact ⟨rfl, rfl⟩
set_option maxRecDepth 100000 in
set_option maxHeartbeats 1000000 in
theorem zzerr_some (L D : Nat) (c0 c1 c2 c3 c4 c5 c6 c7 c8 c9 c10 c11 c12 c13 : Value) (w : World) (hL : Lx L c0 c1 c2 c3 c4 c5 c6 c7 c8 c9 c10 c11 c12 c13 (.iface 27 (.pointer (some ⟨D, 0, none⟩))) w) :
    Calls Tryz.prog 9 #[.pointer (some ⟨L, 0, none⟩)] w fun e w' => e = .returned (.pointer (some ⟨D, 0, none⟩)) ∧ w' = w := by
  have k := hL.at14.1
  have ha := as_diag (.pointer (some ⟨D, 0, none⟩)) w
  clear hL
  go_enter Tryz.func9, Tryz.ntmps9
  go_wp2
  go_ret
  exact ⟨rfl, rfl⟩
set_option maxHeartbeats 1000000 in
theorem desc_end (n : Int) (y : ByteArray) (w : World) :
    Calls Tryz.prog 32 #[.agg #[.int .i64 57382, .int .i64 n, .string ⟨#[]⟩, .string y]] w fun e w' => e = .returned (.string ⟨#[101, 110, 100, 32, 111, 102, 32, 108, 105, 110, 101]⟩) ∧ Below w.heap.size w w' := by
  go_enter Tryz.func32, Tryz.ntmps32
  go_wp2
  go_ret
  exact ⟨rfl, (Below.refl _ _).alloc (Nat.le_refl _) _⟩
set_option maxHeartbeats 1000000 in
theorem desc_quote (F : Interp) (n t : Int) (x y : ByteArray) (w : World) (hE : Env F w) (hx : x.size ≤ 1048576) (h : (t == 57382) = false ∨ ((t == 57382) = true ∧ x.toList.isEmpty = false)) :
    Calls Tryz.prog 32 #[.agg #[.int .i64 t, .int .i64 n, .string x, .string y]] w fun e w' => e = .returned (.string (strOfNums (Lib.quoteZ Lib.goPrintTabs x))) ∧ Below w.heap.size w w' := by
  have HC : Hid (Calls Tryz.prog 49 #[.string x] (w.alloc (.cells #[.int .i64 t, .int .i64 n, .string x, .string y] 51)) fun e w' => e = .returned (.string (strOfNums (Lib.quoteZ Lib.goPrintTabs x))) ∧ Below w.heap.size w w') := by
    have hb : Below w.heap.size w (w.alloc (.cells #[.int .i64 t, .int .i64 n, .string x, .string y] 51)) := (Below.refl _ _).alloc (Nat.le_refl _) _
    have hE2 := hE.below hb
    exact (Tryz.strconv_Quote Lib.goPrintTabs x _ (by omega) hE2.print hE2.utf).mono fun e w' hh => ⟨hh.1, hb.trans (hh.2.mono (by simp))⟩
  clear hE
  rcases h with h | ⟨h, h2⟩
  · go_enter Tryz.func32, Tryz.ntmps32
    go_wp2_with fail
    refine HC.out.mono ?_
    rintro e w1 ⟨rfl, hb⟩
    go_wp2
    go_ret
    exact ⟨rfl, hb⟩
  · go_enter Tryz.func32, Tryz.ntmps32
    go_wp2_with fail
    refine HC.out.mono ?_
    rintro e w1 ⟨rfl, hb⟩
    go_wp2
    go_ret
    exact ⟨rfl, hb⟩
theorem heap_new1 (w : World) (o : Obj) {N : Nat} (h : w.heap.size = N) : (w.alloc o).heap[N]? = some o := by
  subst h
  show (w.heap.push o)[w.heap.size]? = _
  rw [Array.getElem?_push_size]
def sufB : ByteArray := ⟨#[32, 98, 101, 103, 105, 110, 115, 32, 110, 111, 32, 115, 112, 101, 99, 105, 102, 105, 99, 97, 116, 105, 111, 110]⟩
set_option maxRecDepth 100000 in
set_option maxHeartbeats 1000000 in
/-- (*lexer).Error where the lexer has its finding: nothing turns. -/
theorem error_had (L D : Nat) (m : ByteArray) (c0 c1 c2 c3 c4 c5 c6 c7 c8 c9 c10 c11 c12 c13 : Value) (w : World) (hL : Lx L c0 c1 c2 c3 c4 c5 c6 c7 c8 c9 c10 c11 c12 c13 (.iface 27 (.pointer (some ⟨D, 0, none⟩))) w) :
    Calls Tryz.prog 23 #[.pointer (some ⟨L, 0, none⟩), .string m] w fun e w' => e = .returned (.tuple #[]) ∧ w' = w := by
  have k := hL.at14.1
  clear hL
  go_enter Tryz.func23, Tryz.ntmps23
  go_wp2
  refine bodyPost_ret (v := .tuple #[]) (by simp [results, Tryz.results23, go_sem]) rfl ?_
  exact ⟨rfl, rfl⟩
set_option maxRecDepth 100000 in
set_option maxHeartbeats 1000000 in
/-- (*lexer).Error at the beginning of a specification. -/
theorem error_begins (L : Nat) (m u : ByteArray) (n t : Int) (x y : ByteArray) (c0 c1 c2 c3 c8 c9 c10 c11 c13 : Value) (w : World)
    (hL : Lx L c0 c1 c2 c3 (.int .i64 t) (.int .i64 n) (.string x) (.string y) c8 c9 c10 c11 (.bool true) c13 .nilIface w) (hu : u.size ≤ 20000000)
    (hd : Calls Tryz.prog 32 #[.agg #[.int .i64 t, .int .i64 n, .string x, .string y]] w fun e w' => e = .returned (.string u) ∧ Below w.heap.size w w') :
    Calls Tryz.prog 23 #[.pointer (some ⟨L, 0, none⟩), .string m] w fun e w' => e = .returned (.tuple #[]) ∧ ∃ D, Kept L w w' ∧ w.heap.size ≤ D ∧ Dg D n (u ++ sufB) w' ∧
      Lx L c0 c1 c2 c3 (.int .i64 t) (.int .i64 n) (.string x) (.string y) c8 c9 c10 c11 (.bool true) c13 (.iface 27 (.pointer (some ⟨D, 0, none⟩))) w' := by
  have hlt := hL.lt
  have k14 := hL.at14.1
  have k4 := hL.at4.1
  have k5 := hL.at5.1
  have k6 := hL.at6.1
  have k7 := hL.at7.1
  have HL : Hid (Lx L c0 c1 c2 c3 (.int .i64 t) (.int .i64 n) (.string x) (.string y) c8 c9 c10 c11 (.bool true) c13 .nilIface w) := hL
  have HD : Hid (Calls Tryz.prog 32 #[.agg #[.int .i64 t, .int .i64 n, .string x, .string y]] w fun e w' => e = .returned (.string u) ∧ Below w.heap.size w w') := hd
  clear hL hd
  go_enter Tryz.func23, Tryz.ntmps23
  go_wp2_with fail
  refine HD.out.mono ?_
  rintro e w1 ⟨rfl, hb⟩
  have hL1 := HL.out.below hb
  have hs1 := hb.size
  have hlt1 := hL1.lt
  have k12b := hL1.at12.1
  have k5b := hL1.at5.1
  have z14b := hL1.at14.2
  have k14b := hL1.at14.1
  have HL1 : Hid (Lx L c0 c1 c2 c3 (.int .i64 t) (.int .i64 n) (.string x) (.string y) c8 c9 c10 c11 (.bool true) c13 .nilIface w1) := hL1
  have HB : Hid (Below w.heap.size w w1) := hb
  clear hb hL1
  go_wp2
  go_end0
  refine ⟨rfl, w1.heap.size, ((Kept.of_below HB.out).set 14 _).alloc _, hs1, ?_, (HL1.out.set14 _).alloc _⟩
  exact heap_new1 _ _ (by simp [World.setCell])
set_option maxRecDepth 100000 in
theorem zzerror_had (L D : Nat) (m : ByteArray) (c0 c1 c2 c3 c4 c5 c6 c7 c8 c9 c10 c11 c12 c13 : Value) (w : World) (hL : Lx L c0 c1 c2 c3 c4 c5 c6 c7 c8 c9 c10 c11 c12 c13 (.iface 27 (.pointer (some ⟨D, 0, none⟩))) w) :
    Calls Tryz.prog 10 #[.pointer (some ⟨L, 0, none⟩), .string m] w fun e w' => e = .returned (.tuple #[]) ∧ w' = w := by
  have HC : Hid (Calls Tryz.prog 23 #[.pointer (some ⟨L, 0, none⟩), .string m] w fun e w' => e = .returned (.tuple #[]) ∧ w' = w) := error_had L D m c0 c1 c2 c3 c4 c5 c6 c7 c8 c9 c10 c11 c12 c13 w hL
  clear hL
  go_enter Tryz.func10, Tryz.ntmps10
  go_wp2_with fail
  refine HC.out.mono ?_
  rintro e w1 ⟨rfl, rfl⟩
  go_wp2
  go_end0
  exact ⟨rfl, rfl⟩
set_option maxRecDepth 100000 in
theorem zzerror_begins (L : Nat) (m u : ByteArray) (n t : Int) (x y : ByteArray) (c0 c1 c2 c3 c8 c9 c10 c11 c13 : Value) (w : World)
    (hL : Lx L c0 c1 c2 c3 (.int .i64 t) (.int .i64 n) (.string x) (.string y) c8 c9 c10 c11 (.bool true) c13 .nilIface w) (hu : u.size ≤ 20000000)
    (hd : Calls Tryz.prog 32 #[.agg #[.int .i64 t, .int .i64 n, .string x, .string y]] w fun e w' => e = .returned (.string u) ∧ Below w.heap.size w w') :
    Calls Tryz.prog 10 #[.pointer (some ⟨L, 0, none⟩), .string m] w fun e w' => e = .returned (.tuple #[]) ∧ ∃ D, Kept L w w' ∧ w.heap.size ≤ D ∧ Dg D n (u ++ sufB) w' ∧
      Lx L c0 c1 c2 c3 (.int .i64 t) (.int .i64 n) (.string x) (.string y) c8 c9 c10 c11 (.bool true) c13 (.iface 27 (.pointer (some ⟨D, 0, none⟩))) w' := by
  have HC := error_begins L m u n t x y c0 c1 c2 c3 c8 c9 c10 c11 c13 w hL hu hd
  have HC2 : Hid (Calls Tryz.prog 23 #[.pointer (some ⟨L, 0, none⟩), .string m] w _) := HC
  clear hL hd HC
  go_enter Tryz.func10, Tryz.ntmps10
  go_wp2_with fail
  refine HC2.out.mono ?_
  rintro e w1 ⟨rfl, h⟩
  have H : Hid _ := h
  clear h
  go_wp2
  go_end0
  exact ⟨rfl, H.out⟩
end Go.Proofs.Qxb6613210aGreatFmt
