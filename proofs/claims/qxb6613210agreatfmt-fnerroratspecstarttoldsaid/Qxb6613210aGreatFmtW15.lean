import Derived.Test.Qxb6613210aGreatFmtW14
import Derived.Test.Qxb6613210aGreatFmtEnv
import Derived.Test.Qxb6613210aGreatFmtW11
import Derived.Test.Qxb6613210aGreatFmtW1
import Derived.Test.Qxb6613210aGreatFmtPlain6
import Derived.Deep.CutBlock
import Derived.Deep.CutRange
namespace Go.Proofs.Qxb6613210aGreatFmt
open Go.RowKit Pl Go.Extern.Stop Go.Stop Go.Extern

theorem Kept.setNew {L : Nat} {a b : World} (h : Kept L a b) {p : Addr} (hp : a.heap.size ≤ p.block) (v : Value) : Kept L a (b.setCell p v) :=
  ⟨h.os, h.tape, h.output, by have := h.size; simpa [World.setCell] using this, fun k hk hn => by rw [Below.heap_setCell _ _ _ _ (by omega)]; exact h.block k hk hn⟩
theorem Kept.below {L : Nat} {a b c : World} (h : Kept L a b) (hb : Below b.heap.size b c) : Kept L a c := h.trans (Kept.of_below hb)
theorem Lx.setNew {L : Nat} {c0 c1 c2 c3 c4 c5 c6 c7 c8 c9 c10 c11 c12 c13 c14 : Value} {w : World} (h : Lx L c0 c1 c2 c3 c4 c5 c6 c7 c8 c9 c10 c11 c12 c13 c14 w) {p : Addr} (hp : p.block ≠ L) (v : Value) : Lx L c0 c1 c2 c3 c4 c5 c6 c7 c8 c9 c10 c11 c12 c13 c14 (w.setCell p v) := by
  unfold Lx at h ⊢
  rw [Below.heap_setCell _ _ _ _ (by omega)]; exact h
/-- What a call that reads one token has done: the token; or no token, and the lexer's own finding. -/
def LexOut (r : Option (Int × Nat)) (s : ByteArray) (n : Int) (L : Nat) (c0 c3 c4 c5 c6 c7 c8 c9 c10 c11 c12 c13 c14 : Value) (w : World) (e : Ending) (w' : World) : Prop :=
  (∃ t j x y, r = some (t, j) ∧ e = .returned (.tuple #[.agg #[.int .i64 t, .int .i64 n, .string (s.extract 0 j), .string x], .bool true]) ∧ Kept L w w' ∧ Lx L c0 (.string y) (.int .i64 n) c3 c4 c5 c6 c7 c8 c9 c10 c11 c12 c13 c14 w') ∨
  (∃ D t y, r = none ∧ e = .returned (.tuple #[.agg #[.int .i64 57383, .int .i64 n, .string ⟨#[]⟩, .string ⟨#[]⟩], .bool true]) ∧ Kept L w w' ∧ w.heap.size ≤ D ∧ Lx L c0 (.string y) (.int .i64 n) c3 c4 c5 c6 c7 c8 c9 c10 c11 c12 c13 (.iface 27 (.pointer (some ⟨D, 0, none⟩))) w' ∧ w'.heap[D]? = some (.cells #[.string ⟨#[]⟩, .int .i64 n, .string t] 30 (0, 0)))

/-- The four cells of a lexeme in block N. -/
def Rx (N : Nat) (w : World) : Prop := ∃ a b c d, w.heap[N]? = some (.cells #[a, b, c, d] 51 (0, 0))
theorem Rx.cells {N : Nat} {w : World} (h : Rx N w) : (∃ v, w.cell? ⟨N, 0, none⟩ = some v) ∧ (∃ v, w.cell? ⟨N, 1, none⟩ = some v) ∧ (∃ v, w.cell? ⟨N, 2, none⟩ = some v) ∧ (∃ v, w.cell? ⟨N, 3, none⟩ = some v) := by
  obtain ⟨a, b, c, d, h⟩ := h
  exact ⟨⟨a, by simp [World.cell?, h]⟩, ⟨b, by simp [World.cell?, h]⟩, ⟨c, by simp [World.cell?, h]⟩, ⟨d, by simp [World.cell?, h]⟩⟩
theorem Rx.frozen {N : Nat} {w : World} (h : Rx N w) : w.frozen? ⟨N, 0, none⟩ = false ∧ w.frozen? ⟨N, 1, none⟩ = false ∧ w.frozen? ⟨N, 2, none⟩ = false ∧ w.frozen? ⟨N, 3, none⟩ = false := by
  obtain ⟨a, b, c, d, h⟩ := h
  exact ⟨by simp [World.frozen?, h], by simp [World.frozen?, h], by simp [World.frozen?, h], by simp [World.frozen?, h]⟩
theorem Rx.lt {N : Nat} {w : World} (h : Rx N w) : N < w.heap.size := by
  obtain ⟨a, b, c, d, h⟩ := h
  rcases Nat.lt_or_ge N w.heap.size with hh | hh
  · exact hh
  · rw [Array.getElem?_eq_none hh] at h; cases h
theorem Rx.kept {N L : Nat} {w w' : World} (h : Rx N w) (hk : Kept L w w') (hn : N ≠ L) : Rx N w' := by
  have hl := h.lt
  obtain ⟨a, b, c, d, h⟩ := h
  exact ⟨a, b, c, d, by rw [hk.block N hl hn]; exact h⟩
theorem Rx.new (w : World) (a b c d : Value) : Rx w.heap.size (w.alloc (.cells #[a, b, c, d] 51)) :=
  ⟨a, b, c, d, by show (w.heap.push _)[w.heap.size]? = _; rw [Array.getElem?_push_size]⟩
theorem Rx.newAt (w : World) (a b c d : Value) {N : Nat} (h : w.heap.size = N) : Rx N (w.alloc (.cells #[a, b, c, d] 51)) := by
  subst h; exact Rx.new w a b c d
theorem Rx.alloc {N : Nat} {w : World} (h : Rx N w) (o : Obj) : Rx N (w.alloc o) := by
  have hl := h.lt
  obtain ⟨a, b, c, d, h⟩ := h
  exact ⟨a, b, c, d, by rw [Below.heap_alloc _ _ _ hl]; exact h⟩
theorem Rx.drew {N : Nat} {w : World} (h : Rx N w) : Rx N w.drew := h
theorem Rx.set {N : Nat} {w : World} (h : Rx N w) {p : Addr} (hp : p.block ≠ N) (v : Value) : Rx N (w.setCell p v) := by
  obtain ⟨a, b, c, d, h⟩ := h
  exact ⟨a, b, c, d, by rw [Below.heap_setCell _ _ _ _ (by omega)]; exact h⟩
/-- The four stores of a lexeme into block N. -/
theorem Kept.put4 {L N : Nat} {a b : World} (h : Kept L a b) (hN : a.heap.size ≤ N) (v0 v1 v2 v3 : Value) : Kept L a ((((b.setCell ⟨N, 0, none⟩ v0).setCell ⟨N, 1, none⟩ v1).setCell ⟨N, 2, none⟩ v2).setCell ⟨N, 3, none⟩ v3) :=
  (((h.setNew hN v0).setNew hN v1).setNew hN v2).setNew hN v3
theorem heap_put4 {N D : Nat} {b : World} (hN : D ≠ N) (v0 v1 v2 v3 : Value) : ((((b.setCell ⟨N, 0, none⟩ v0).setCell ⟨N, 1, none⟩ v1).setCell ⟨N, 2, none⟩ v2).setCell ⟨N, 3, none⟩ v3).heap[D]? = b.heap[D]? := by
  rw [Below.heap_setCell _ _ _ _ hN, Below.heap_setCell _ _ _ _ hN, Below.heap_setCell _ _ _ _ hN, Below.heap_setCell _ _ _ _ hN]
theorem Lx.put4 {L N : Nat} {c0 c1 c2 c3 c4 c5 c6 c7 c8 c9 c10 c11 c12 c13 c14 : Value} {b : World} (h : Lx L c0 c1 c2 c3 c4 c5 c6 c7 c8 c9 c10 c11 c12 c13 c14 b) (hN : L ≠ N) (v0 v1 v2 v3 : Value) : Lx L c0 c1 c2 c3 c4 c5 c6 c7 c8 c9 c10 c11 c12 c13 c14 ((((b.setCell ⟨N, 0, none⟩ v0).setCell ⟨N, 1, none⟩ v1).setCell ⟨N, 2, none⟩ v2).setCell ⟨N, 3, none⟩ v3) := by
  unfold Lx at h ⊢; rw [heap_put4 hN]; exact h
theorem idx_hex_yes (c : UInt8) (h : isHex c = true) (w : World) : Calls Tryz.prog 33 #[.string ⟨#[48, 49, 50, 51, 52, 53, 54, 55, 56, 57, 97, 98, 99, 100, 101, 102, 65, 66, 67, 68, 69, 70]⟩, .int .u8 c.toNat] w fun e w' => ∃ i : Int, e = .returned (.int .i64 i) ∧ 0 ≤ i ∧ w' = w :=
  (Tryz.strings_IndexByte _ _ w).mono fun _ _ hh => ⟨_, hh.1, by rw [toNat_toU8]; exact (index_hex c).2 h, hh.2⟩
theorem idx_hex_no (c : UInt8) (h : isHex c = false) (w : World) : Calls Tryz.prog 33 #[.string ⟨#[48, 49, 50, 51, 52, 53, 54, 55, 56, 57, 97, 98, 99, 100, 101, 102, 65, 66, 67, 68, 69, 70]⟩, .int .u8 c.toNat] w fun e w' => ∃ i : Int, e = .returned (.int .i64 i) ∧ i < 0 ∧ w' = w :=
  (Tryz.strings_IndexByte _ _ w).mono fun _ _ hh => ⟨_, hh.1, (by
    rw [toNat_toU8]
    rcases Int.lt_or_le (Lib.indexByte [48, 49, 50, 51, 52, 53, 54, 55, 56, 57, 97, 98, 99, 100, 101, 102, 65, 66, 67, 68, 69, 70] c) 0 with h2 | h2
    · exact h2
    · rw [(index_hex c).1 h2] at h; cases h), hh.2⟩
theorem hexes16 (s : ByteArray) (k : Nat) (hk : k ≤ s.size) (h : runEnd isHex s.data.toList 2 = k) : ∀ (j : Nat) (hj : j < (s.extract 2 k).size), 0 ≤ hexV (s.extract 2 k)[j] ∧ hexV (s.extract 2 k)[j] < 16 := by
  intro j hj
  obtain ⟨h', e, hb⟩ := getElem_extract s 2 k j hk hj
  rw [e]
  obtain ⟨h3, h4⟩ := runEnd_run isHex s.data.toList 2 (2 + j) (by omega) (by omega)
  rw [getElem_list s _ h'] at h4
  exact ⟨by simpa [isHex] using h4, by have := (hexV_bd s[2 + j]).2; omega⟩
theorem digs10 (s : ByteArray) (D : Nat) (hD : D ≤ s.size) (h0 : 0 < s.size) (hd : isDig s[0] = true) (h : runEnd isDig s.data.toList 1 = D) : ∀ (j : Nat) (hj : j < (s.extract 0 D).size), 0 ≤ hexV (s.extract 0 D)[j] ∧ hexV (s.extract 0 D)[j] < 10 := by
  intro j hj
  obtain ⟨h', e, hb⟩ := getElem_extract s 0 D j hD hj
  rw [e]
  have hx : ∀ c : UInt8, isDig c = true → 0 ≤ hexV c ∧ hexV c < 10 := by
    intro c hc
    simp only [isDig, Bool.and_eq_true, decide_eq_true_eq] at hc
    unfold hexV
    rw [if_pos hc]; omega
  apply hx
  simp only [Nat.zero_add] at hb ⊢
  by_cases hj0 : j = 0
  · subst hj0; exact hd
  · obtain ⟨h3, h4⟩ := runEnd_run isDig s.data.toList 1 j (by omega) (by omega)
    rw [getElem_list s _ (by omega)] at h4
    exact h4
/-- The digits ahead of D are digits. -/
theorem digs_at (s : ByteArray) (D : Nat) (h0 : 0 < s.size) (hd : isDig s[0] = true) (h : runEnd isDig s.data.toList 1 = D) : ∀ (j : Nat) (hj : j < s.size), j < D → isDig s[j] = true := by
  intro j hj hjD
  by_cases hj0 : j = 0
  · subst hj0; exact hd
  · obtain ⟨h3, h4⟩ := runEnd_run isDig s.data.toList 1 j (by omega) (by omega)
    rw [getElem_list s _ hj] at h4
    exact h4
theorem digs8 (s : ByteArray) (D : Nat) (hD : D ≤ s.size) (h0 : 0 < s.size) (hd : isDig s[0] = true) (h : runEnd isDig s.data.toList 1 = D) (ho : (s.data.toList.take D).any (fun c => decide (55 < c.toNat)) = false) : ∀ (j : Nat) (hj : j < (s.extract 0 D).size), 0 ≤ hexV (s.extract 0 D)[j] ∧ hexV (s.extract 0 D)[j] < 8 := by
  intro j hj
  obtain ⟨h', e, hb⟩ := getElem_extract s 0 D j hD hj
  rw [e]
  simp only [Nat.zero_add] at hb h' ⊢
  have h1 := digs_at s D h0 hd h j h' hb
  have h2 : ¬ 55 < s[j].toNat := fun h3 => by
    have := (any_take s D hD).2 ⟨j, h', hb, h3⟩
    rw [ho] at this; cases this
  simp only [isDig, Bool.and_eq_true, decide_eq_true_eq] at h1
  unfold hexV
  rw [if_pos h1]; omega
/-- strings.Trim over the octal digits: what is left. -/
theorem trim_oct (s : ByteArray) (D : Nat) (hD : D ≤ s.size) (h0 : 0 < s.size) (hd : isDig s[0] = true) (h : runEnd isDig s.data.toList 1 = D) :
    ((⟨(Lib.trimS (s.extract 0 D).data.toList [48, 49, 50, 51, 52, 53, 54, 55]).toArray⟩ : ByteArray).toList.isEmpty) = !(s.data.toList.take D).any (fun c => decide (55 < c.toNat)) := by
  rw [ByteArray.toList_eq, extract0_list]
  have key : Lib.trimS (s.data.toList.take D) [48, 49, 50, 51, 52, 53, 54, 55] = [] ↔ (s.data.toList.take D).any (fun c => decide (55 < c.toNat)) = false := by
    rw [trimS_nil, ← Bool.not_eq_true, List.any_eq_true]
    constructor
    · rintro h1 ⟨x, hx, h2⟩
      have hdx : isDig x = true := by
        obtain ⟨k, hk, e⟩ := List.getElem_of_mem hx
        rw [List.length_take, size_list] at hk
        rw [List.getElem_take, getElem_list s k (by omega)] at e
        rw [← e]; exact digs_at s D h0 hd h k (by omega) (by omega)
      have := h1 x hx
      rw [oct_contains x hdx, h2] at this; cases this
    · intro h1 x hx
      have hdx : isDig x = true := by
        obtain ⟨k, hk, e⟩ := List.getElem_of_mem hx
        rw [List.length_take, size_list] at hk
        rw [List.getElem_take, getElem_list s k (by omega)] at e
        rw [← e]; exact digs_at s D h0 hd h k (by omega) (by omega)
      rw [oct_contains x hdx]
      cases h2 : decide (55 < x.toNat) with
      | true => exact absurd ⟨x, hx, h2⟩ h1
      | false => rfl
  cases ha : (s.data.toList.take D).any (fun c => decide (55 < c.toNat)) with
  | false => rw [key.2 ha]; rfl
  | true =>
    cases ht : Lib.trimS (s.data.toList.take D) [48, 49, 50, 51, 52, 53, 54, 55] with
    | nil => rw [key.1 ht] at ha; cases ha
    | cons a l => rfl
theorem trim_any (s : ByteArray) (hs : s.size ≤ 1048576) (w : World) : Calls Tryz.prog 54 #[.string s, .string ⟨#[48, 49, 50, 51, 52, 53, 54, 55]⟩] w fun e w' => e = .returned (.string ⟨(Lib.trimS s.data.toList [48, 49, 50, 51, 52, 53, 54, 55]).toArray⟩) ∧ Below w.heap.size w w' :=
  Any.strings_Trim_laid Tryz.lays160 (by kernel_rfl) s ⟨#[48, 49, 50, 51, 52, 53, 54, 55]⟩ w (by omega) (by decide) (ascii_of_all (by decide))
set_option maxRecDepth 100000 in
set_option maxHeartbeats 2000000 in
theorem number_hexbad (F : Interp) (L : Nat) (n : Int) (c0 c3 c4 c5 c6 c7 c8 c9 c10 c11 c12 c13 c14 : Value) (s : ByteArray) (w0 w : World) (hE : Env F w0) (hB0 : Below w0.heap.size w0 w) (hL0 : w0.heap.size ≤ L)
    (hL : Lx L c0 (.string s) (.int .i64 n) c3 c4 c5 c6 c7 c8 c9 c10 c11 c12 c13 c14 w) (hs : s.size ≤ 1048576) (h1 : 1 < s.size) (h0 : (((s[0]'(by omega)).toNat : Int) == 48) = true) (hx : (((s[1]'h1).toNat : Int) == 120) = true ∨ ((((s[1]'h1).toNat : Int) == 120) = false ∧ (((s[1]'h1).toNat : Int) == 88) = true)) (HD : Hid (runEnd isDig s.data.toList 0 = 1)) (E : Nat) (HE : Hid (runEnd isHex s.data.toList 2 = E)) (hEq : E = 2) :
    Calls Tryz.prog 46 #[.pointer (some ⟨L, 0, none⟩)] w fun e w' => LexOut (numTok s.data.toList) s n L c0 c3 c4 c5 c6 c7 c8 c9 c10 c11 c12 c13 c14 w e w' := by
  have HZ : Hid (s.data.toList.length = s.size) := size_list s
  have HF : Hid (F.answers w.tape) := by unfold Hid; rw [hB0.tape]; exact hE.ans
  have HV : Hid (Env F w0) := hE
  have HB0 : Hid (Below w0.heap.size w0 w) := hB0
  have HL0 : Hid (w0.heap.size ≤ L) := hL0
  clear hE hB0 hL0
  have k1 := hL.at1.1
  have k2 := hL.at2.1
  have z1 := hL.at1.2
  have hlt := hL.lt
  have HL : Hid (Lx L c0 (.string s) (.int .i64 n) c3 c4 c5 c6 c7 c8 c9 c10 c11 c12 c13 c14 w) := hL
  clear hL
  have h1' : (1 : Int) < (s.size : Int) := by omega
  subst hEq
  have HT : Hid (numTok s.data.toList = none) := by
    unfold Hid
    rw [numTok_hex s h1 h0 (hx.elim Or.inl fun h => Or.inr h.2), if_pos HE.out]
  go_enter Tryz.func46, Tryz.ntmps46
  go_upto_block 0 with fail
  go_cut [5] from 15 to 26 (fun j wd => j = .int .i64 1 ∧ wd = w.alloc (.cells #[.int .i64 0, .int .i64 0, .string ⟨#[]⟩, .string ⟨#[]⟩] 51))
  case first =>
    go_wp2_with fail
    go_loop [5] (fun i => ∃ k : Nat, 0 ≤ k ∧ k ≤ s.size ∧ i = .int .i64 k ∧ Hid (runEnd isDig s.data.toList k = 1)) (fun i => s.size - (intOf i).toNat)
    case atStart => exact ⟨0, by omega, by omega, by go_num, HD⟩
    case round =>
      obtain ⟨k, hk2, hk, rfl, hr⟩ := hrel
      by_cases hlt2 : k < s.size
      · cases hb : isDig s[k] with
        | true =>
          have hr2 : Hid (runEnd isDig s.data.toList (k + 1) = 1) := by
            unfold Hid
            exact (runEnd_step _ _ _ (by rw [HZ.out]; exact hlt2) (by rw [getElem_list s k hlt2]; exact hb)).symm.trans hr.out
          go_wp2_with (go_at_call 45; refine (dig2_any _ _).mono ?_; rintro e w' ⟨rfl, hw⟩; replace hw := hw.symm; subst hw)
          go_round
          case rel => exact ⟨k + 1, by omega, by omega, by go_num, hr2⟩
          case measure => simp [intOf]; omega
        | false =>
          have hr2 : Hid (k = 1) := by
            unfold Hid
            exact (runEnd_stop _ _ _ (by rw [HZ.out]; exact hlt2) (by rw [getElem_list s k hlt2]; exact hb)).symm.trans hr.out
          go_wp2_with (go_at_call 45; refine (dig2_any _ _).mono ?_; rintro e w' ⟨rfl, hw⟩; replace hw := hw.symm; subst hw)
          go_meet
          case rel => exact ⟨by rw [hr2.out]; try rfl, rfl⟩
      · have hr2 : Hid (k = 1) := by
          unfold Hid
          exact (runEnd_end _ _ _ (by rw [HZ.out]; omega)).symm.trans hr.out
        go_wp2_with fail
        go_meet
        case rel => exact ⟨by rw [hr2.out]; try rfl, rfl⟩
  case rest =>
    obtain ⟨rfl, rfl⟩ := hcut
    go_wp2_with fail
    go_region
    go_upto_region 6 with fail
    go_cut [30] from 31 to 52 (fun b wd => b = .bool true ∧ wd = (w.alloc (.cells #[.int .i64 0, .int .i64 0, .string ⟨#[]⟩, .string ⟨#[]⟩] 51)).drew)
    case first =>
      rcases hx with hx | ⟨hx, hx'⟩
      all_goals go_wp2
      all_goals
        go_meet
        case rel => exact ⟨rfl, rfl⟩
    case rest =>
      obtain ⟨rfl, rfl⟩ := hcut
      go_upto_block 3 with fail
      go_cut [5] from 53 to 65 (fun j wd => j = .int .i64 2 ∧ wd = (w.alloc (.cells #[.int .i64 0, .int .i64 0, .string ⟨#[]⟩, .string ⟨#[]⟩] 51)).drew)
      case first =>
        go_wp2_with fail
        go_loop [5] (fun i => ∃ k : Nat, 2 ≤ k ∧ k ≤ s.size ∧ i = .int .i64 k ∧ Hid (runEnd isHex s.data.toList k = 2)) (fun i => s.size - (intOf i).toNat)
        case atStart => exact ⟨2, by omega, by omega, by go_num, HE⟩
        case round =>
          obtain ⟨k, hk2, hk, rfl, hr⟩ := hrel
          by_cases hlt2 : k < s.size
          · cases hb : isHex s[k] with
            | true =>
              have hr2 : Hid (runEnd isHex s.data.toList (k + 1) = 2) := by
                unfold Hid
                exact (runEnd_step _ _ _ (by rw [HZ.out]; exact hlt2) (by rw [getElem_list s k hlt2]; exact hb)).symm.trans hr.out
              go_wp2_with (go_at_call 33; refine (idx_hex_yes _ hb _).mono ?_; rintro e w' ⟨i, rfl, hi, hw⟩; replace hw := hw.symm; subst hw)
              go_round
              case rel => exact ⟨k + 1, by omega, by omega, by go_num, hr2⟩
              case measure => simp [intOf]; omega
            | false =>
              have hr2 : Hid (k = 2) := by
                unfold Hid
                exact (runEnd_stop _ _ _ (by rw [HZ.out]; exact hlt2) (by rw [getElem_list s k hlt2]; exact hb)).symm.trans hr.out
              go_wp2_with (go_at_call 33; refine (idx_hex_no _ hb _).mono ?_; rintro e w' ⟨i, rfl, hi, hw⟩; replace hw := hw.symm; subst hw)
              go_meet
              case rel => exact ⟨by rw [hr2.out]; try rfl, rfl⟩
          · have hr2 : Hid (k = 2) := by
              unfold Hid
              exact (runEnd_end _ _ _ (by rw [HZ.out]; omega)).symm.trans hr.out
            go_wp2_with fail
            go_meet
            case rel => exact ⟨by rw [hr2.out]; try rfl, rfl⟩
      case rest =>
        obtain ⟨rfl, rfl⟩ := hcut
        go_wp2_with fail
        refine (fail_any L n c0 _ c3 c4 c5 c6 c7 c8 c9 c10 c11 c12 c13 c14 fHex _ _ ((HL.out.alloc _).alloc _).drew (spf_fHex F (s.extract 0 2) (w.heap.size + 1) _ HF.out (by first | go_simp | (simp [World.cell?_alloc_new]; done)))).mono ?_
        rintro e w1 ⟨rfl, D, t, hk, hD, hLx, hDt⟩
        have hR : Rx w.heap.size w1 := (((Rx.new w _ _ _ _).alloc _).drew).kept hk (by omega)
        obtain ⟨⟨r0, q0⟩, ⟨r1, q1⟩, ⟨r2, q2⟩, ⟨r3, q3⟩⟩ := hR.cells
        obtain ⟨y0, y1, y2, y3⟩ := hR.frozen
        have HK : Hid (Kept L w w1) := ((((Kept.refl L w).alloc _).alloc _).drew).trans hk
        have hDw : w.heap.size < D := by simp at hD; omega
        have HLx : Hid (Lx L c0 (.string s) (.int .i64 n) c3 c4 c5 c6 c7 c8 c9 c10 c11 c12 c13 (.iface 27 (.pointer (some ⟨D, 0, none⟩))) w1) := hLx
        have HDt : Hid (w1.heap[D]? = some (.cells #[.string ⟨#[]⟩, .int .i64 n, .string t] 30 (0, 0))) := hDt
        clear hk hD hLx hDt hR
        go_wp2
        refine bodyPost_ret (v := .tuple #[.agg #[.int .i64 57383, .int .i64 n, .string ⟨#[]⟩, .string ⟨#[]⟩], .bool true]) (by simp [results, Tryz.results46, go_sem, q0, q1, q2, q3]) rfl ?_
        refine Or.inr ⟨D, t, s, HT.out, rfl, HK.out.put4 (Nat.le_refl _) _ _ _ _, by omega, HLx.out.put4 (by omega) _ _ _ _, ?_⟩
        rw [heap_put4 (by omega)]; exact HDt.out
set_option maxRecDepth 100000 in
set_option maxHeartbeats 2000000 in
theorem number_hex (F : Interp) (L : Nat) (n : Int) (c0 c3 c4 c5 c6 c7 c8 c9 c10 c11 c12 c13 c14 : Value) (s : ByteArray) (w0 w : World) (hE : Env F w0) (hB0 : Below w0.heap.size w0 w) (hL0 : w0.heap.size ≤ L)
    (hL : Lx L c0 (.string s) (.int .i64 n) c3 c4 c5 c6 c7 c8 c9 c10 c11 c12 c13 c14 w) (hs : s.size ≤ 1048576) (h1 : 1 < s.size) (h0 : (((s[0]'(by omega)).toNat : Int) == 48) = true) (hx : (((s[1]'h1).toNat : Int) == 120) = true ∨ ((((s[1]'h1).toNat : Int) == 120) = false ∧ (((s[1]'h1).toNat : Int) == 88) = true)) (HD : Hid (runEnd isDig s.data.toList 0 = 1)) (E : Nat) (HE : Hid (runEnd isHex s.data.toList 2 = E)) (hE2 : 2 < E) (hEs : E ≤ s.size) :
    Calls Tryz.prog 46 #[.pointer (some ⟨L, 0, none⟩)] w fun e w' => LexOut (numTok s.data.toList) s n L c0 c3 c4 c5 c6 c7 c8 c9 c10 c11 c12 c13 c14 w e w' := by
  have HZ : Hid (s.data.toList.length = s.size) := size_list s
  have HF : Hid (F.answers w.tape) := by unfold Hid; rw [hB0.tape]; exact hE.ans
  have HV : Hid (Env F w0) := hE
  have HB0 : Hid (Below w0.heap.size w0 w) := hB0
  have HL0 : Hid (w0.heap.size ≤ L) := hL0
  clear hE hB0 hL0
  have k1 := hL.at1.1
  have k2 := hL.at2.1
  have z1 := hL.at1.2
  have hlt := hL.lt
  have HL : Hid (Lx L c0 (.string s) (.int .i64 n) c3 c4 c5 c6 c7 c8 c9 c10 c11 c12 c13 c14 w) := hL
  clear hL
  have h1' : (1 : Int) < (s.size : Int) := by omega
  have hzz := size_extract s 2 E (by omega) hEs
  have HZ2 : Hid ((s.extract 2 E).size ≤ 1048576) := by unfold Hid; omega
  have HZ3 : Hid ((s.extract 2 E).size ≠ 0) := by unfold Hid; omega
  clear hzz
  have HX2 : Hid (∀ (j : Nat) (hj : j < (s.extract 2 E).size), 0 ≤ hexV (s.extract 2 E)[j] ∧ hexV (s.extract 2 E)[j] < 16) := hexes16 s E hEs HE.out
  have HT : Hid (numTok s.data.toList = if valN 16 ((s.data.toList.take E).drop 2) ≤ 18446744073709551615 then some (57380, E) else none) := by
    unfold Hid
    rw [numTok_hex s h1 h0 (hx.elim Or.inl fun h => Or.inr h.2), HE.out, if_neg (by omega)]
  go_enter Tryz.func46, Tryz.ntmps46
  go_upto_block 0 with fail
  go_cut [5] from 15 to 26 (fun j wd => j = .int .i64 1 ∧ wd = w.alloc (.cells #[.int .i64 0, .int .i64 0, .string ⟨#[]⟩, .string ⟨#[]⟩] 51))
  case first =>
    go_wp2_with fail
    go_loop [5] (fun i => ∃ k : Nat, 0 ≤ k ∧ k ≤ s.size ∧ i = .int .i64 k ∧ Hid (runEnd isDig s.data.toList k = 1)) (fun i => s.size - (intOf i).toNat)
    case atStart => exact ⟨0, by omega, by omega, by go_num, HD⟩
    case round =>
      obtain ⟨k, hk2, hk, rfl, hr⟩ := hrel
      by_cases hlt2 : k < s.size
      · cases hb : isDig s[k] with
        | true =>
          have hr2 : Hid (runEnd isDig s.data.toList (k + 1) = 1) := by
            unfold Hid
            exact (runEnd_step _ _ _ (by rw [HZ.out]; exact hlt2) (by rw [getElem_list s k hlt2]; exact hb)).symm.trans hr.out
          go_wp2_with (go_at_call 45; refine (dig2_any _ _).mono ?_; rintro e w' ⟨rfl, hw⟩; replace hw := hw.symm; subst hw)
          go_round
          case rel => exact ⟨k + 1, by omega, by omega, by go_num, hr2⟩
          case measure => simp [intOf]; omega
        | false =>
          have hr2 : Hid (k = 1) := by
            unfold Hid
            exact (runEnd_stop _ _ _ (by rw [HZ.out]; exact hlt2) (by rw [getElem_list s k hlt2]; exact hb)).symm.trans hr.out
          go_wp2_with (go_at_call 45; refine (dig2_any _ _).mono ?_; rintro e w' ⟨rfl, hw⟩; replace hw := hw.symm; subst hw)
          go_meet
          case rel => exact ⟨by rw [hr2.out]; try rfl, rfl⟩
      · have hr2 : Hid (k = 1) := by
          unfold Hid
          exact (runEnd_end _ _ _ (by rw [HZ.out]; omega)).symm.trans hr.out
        go_wp2_with fail
        go_meet
        case rel => exact ⟨by rw [hr2.out]; try rfl, rfl⟩
  case rest =>
    obtain ⟨rfl, rfl⟩ := hcut
    go_wp2_with fail
    go_region
    go_upto_region 6 with fail
    go_cut [30] from 31 to 52 (fun b wd => b = .bool true ∧ wd = (w.alloc (.cells #[.int .i64 0, .int .i64 0, .string ⟨#[]⟩, .string ⟨#[]⟩] 51)).drew)
    case first =>
      rcases hx with hx | ⟨hx, hx'⟩
      all_goals go_wp2
      all_goals
        go_meet
        case rel => exact ⟨rfl, rfl⟩
    case rest =>
      obtain ⟨rfl, rfl⟩ := hcut
      go_upto_block 3 with fail
      go_cut [5] from 53 to 65 (fun j wd => j = .int .i64 E ∧ wd = (w.alloc (.cells #[.int .i64 0, .int .i64 0, .string ⟨#[]⟩, .string ⟨#[]⟩] 51)).drew)
      case first =>
        go_wp2_with fail
        go_loop [5] (fun i => ∃ k : Nat, 2 ≤ k ∧ k ≤ s.size ∧ i = .int .i64 k ∧ Hid (runEnd isHex s.data.toList k = E)) (fun i => s.size - (intOf i).toNat)
        case atStart => exact ⟨2, by omega, by omega, by go_num, HE⟩
        case round =>
          obtain ⟨k, hk2, hk, rfl, hr⟩ := hrel
          by_cases hlt2 : k < s.size
          · cases hb : isHex s[k] with
            | true =>
              have hr2 : Hid (runEnd isHex s.data.toList (k + 1) = E) := by
                unfold Hid
                exact (runEnd_step _ _ _ (by rw [HZ.out]; exact hlt2) (by rw [getElem_list s k hlt2]; exact hb)).symm.trans hr.out
              go_wp2_with (go_at_call 33; refine (idx_hex_yes _ hb _).mono ?_; rintro e w' ⟨i, rfl, hi, hw⟩; replace hw := hw.symm; subst hw)
              go_round
              case rel => exact ⟨k + 1, by omega, by omega, by go_num, hr2⟩
              case measure => simp [intOf]; omega
            | false =>
              have hr2 : Hid (k = E) := by
                unfold Hid
                exact (runEnd_stop _ _ _ (by rw [HZ.out]; exact hlt2) (by rw [getElem_list s k hlt2]; exact hb)).symm.trans hr.out
              go_wp2_with (go_at_call 33; refine (idx_hex_no _ hb _).mono ?_; rintro e w' ⟨i, rfl, hi, hw⟩; replace hw := hw.symm; subst hw)
              go_meet
              case rel => exact ⟨by rw [hr2.out]; try rfl, rfl⟩
          · have hr2 : Hid (k = E) := by
              unfold Hid
              exact (runEnd_end _ _ _ (by rw [HZ.out]; omega)).symm.trans hr.out
            go_wp2_with fail
            go_meet
            case rel => exact ⟨by rw [hr2.out]; try rfl, rfl⟩
      case rest =>
        obtain ⟨rfl, rfl⟩ := hcut
        go_wp2_with fail
        go_region
        go_wp2_with fail
        have hKW : Kept L w (((w.setCell ⟨L, 1, none⟩ (.string (s.extract E s.size))).alloc (.cells #[.int .i64 0, .int .i64 0, .string ⟨#[]⟩, .string ⟨#[]⟩] 51)).drew.drew) := (((Kept.refl L w).set 1 _).alloc _).drew.drew
        have hLW : Lx L c0 (.string (s.extract E s.size)) (.int .i64 n) c3 c4 c5 c6 c7 c8 c9 c10 c11 c12 c13 c14 (((w.setCell ⟨L, 1, none⟩ (.string (s.extract E s.size))).alloc (.cells #[.int .i64 0, .int .i64 0, .string ⟨#[]⟩, .string ⟨#[]⟩] 51)).drew.drew) := ((HL.out.set1 _).alloc _).drew.drew
        have hRW : Rx w.heap.size (((w.setCell ⟨L, 1, none⟩ (.string (s.extract E s.size))).alloc (.cells #[.int .i64 0, .int .i64 0, .string ⟨#[]⟩, .string ⟨#[]⟩] 51)).drew.drew) := (Rx.newAt (w.setCell ⟨L, 1, none⟩ (.string (s.extract E s.size))) _ _ _ _ (by simp [World.setCell])).drew.drew
        obtain ⟨te, pe, hv6⟩ := (HV.out.below (HB0.out.trans (hKW.old HL0.out HB0.out.size))).err
        refine (parse16 (s.extract 2 E) HZ3.out HZ2.out _ HX2.out te pe hv6).mono ?_
        rintro e w2 hpost
        obtain ⟨hcase, hb⟩ := hpost
        have HK2 : Hid (Kept L w w2) := hKW.below hb
        have hLx2 := hLW.below hb
        have hR2 : Rx w.heap.size w2 := hRW.kept (Kept.of_below (L := L) hb) (by omega)
        have k2b := hLx2.at2.1
        obtain ⟨⟨r0, q0⟩, ⟨r1, q1⟩, ⟨r2, q2⟩, ⟨r3, q3⟩⟩ := hR2.cells
        obtain ⟨y0, y1, y2, y3⟩ := hR2.frozen
        have hN2 := hR2.lt
        have HLx2 : Hid (Lx L c0 (.string (s.extract E s.size)) (.int .i64 n) c3 c4 c5 c6 c7 c8 c9 c10 c11 c12 c13 c14 w2) := hLx2
        have HR2 : Hid (Rx w.heap.size w2) := hR2
        have HE2 : Hid (Env F w2) := HV.out.below (HB0.out.trans (HK2.out.old HL0.out HB0.out.size))
        clear hKW hLW hRW hv6 hb hLx2 hR2
        rcases hcase with ⟨hv, m, hm, rfl⟩ | ⟨hv, N2, rfl⟩
        · have HT2 : Hid (numTok s.data.toList = some (57380, E)) := by unfold Hid; rw [extract_list] at hv; rw [HT.out, if_pos hv]
          clear hv
          go_wp2_with fail
          go_region_with (go_at_call 56; refine (formatUint_any m hm _ (by exact HE2.out.pow)).mono ?_; rintro e w3 ⟨⟨t, rfl⟩, hb3⟩; have HK3 : Hid (Kept L w w3) := HK2.out.drew.below hb3; have hLx3 := HLx2.out.drew.below hb3; have k2c := hLx3.at2.1; have hR3 : Rx w.heap.size w3 := HR2.out.drew.kept (Kept.of_below (L := L) hb3) (by omega); obtain ⟨⟨x0, p0⟩, ⟨x1, p1⟩, ⟨x2, p2⟩, ⟨x3, p3⟩⟩ := hR3.cells; obtain ⟨v0, v1, v2, v3⟩ := hR3.frozen; have HLx3 : Hid (Lx L c0 (.string (s.extract E s.size)) (.int .i64 n) c3 c4 c5 c6 c7 c8 c9 c10 c11 c12 c13 c14 w3) := hLx3; clear hLx3 hb3 hR3)
          all_goals
            go_wp2
            refine bodyPost_ret (v := .tuple #[.agg #[.int .i64 57380, .int .i64 n, .string (s.extract 0 E), .string t], .bool true]) (by simp [results, Tryz.results46, go_sem, p0, p1, p2, p3]) rfl ?_
            exact Or.inl ⟨57380, E, t, _, HT2.out, rfl, HK3.out.put4 (Nat.le_refl _) _ _ _ _, HLx3.out.put4 (by omega) _ _ _ _⟩
        · have HT2 : Hid (numTok s.data.toList = none) := by unfold Hid; rw [extract_list] at hv; rw [HT.out, if_neg (by omega)]
          clear hv
          go_wp2_with fail
          refine (fail_any L n c0 _ c3 c4 c5 c6 c7 c8 c9 c10 c11 c12 c13 c14 fFit _ _ (HLx2.out.alloc _) (spf_fFit F (s.extract 0 E) w2.heap.size _ HE2.out.ans (by go_simp))).mono ?_
          rintro e w3 ⟨rfl, D2, t, hk, hDD, hLx, hDt⟩
          have hR : Rx w.heap.size w3 := (HR2.out.alloc _).kept hk (by omega)
          obtain ⟨⟨x0, p0⟩, ⟨x1, p1⟩, ⟨x2, p2⟩, ⟨x3, p3⟩⟩ := hR.cells
          obtain ⟨v0, v1, v2, v3⟩ := hR.frozen
          have HK : Hid (Kept L w w3) := (HK2.out.alloc _).trans hk
          have hDw : w.heap.size < D2 := by simp at hDD; omega
          have HLx : Hid (Lx L c0 (.string (s.extract E s.size)) (.int .i64 n) c3 c4 c5 c6 c7 c8 c9 c10 c11 c12 c13 (.iface 27 (.pointer (some ⟨D2, 0, none⟩))) w3) := hLx
          have HDt : Hid (w3.heap[D2]? = some (.cells #[.string ⟨#[]⟩, .int .i64 n, .string t] 30 (0, 0))) := hDt
          clear hk hDD hLx hDt hR
          go_wp2
          refine bodyPost_ret (v := .tuple #[.agg #[.int .i64 57383, .int .i64 n, .string ⟨#[]⟩, .string ⟨#[]⟩], .bool true]) (by simp [results, Tryz.results46, go_sem, p0, p1, p2, p3]) rfl ?_
          refine Or.inr ⟨D2, t, _, HT2.out, rfl, HK.out.put4 (Nat.le_refl _) _ _ _ _, by omega, HLx.out.put4 (by omega) _ _ _ _, ?_⟩
          rw [heap_put4 (by omega)]; exact HDt.out
set_option maxRecDepth 100000 in
set_option maxHeartbeats 2000000 in
theorem number_dot (F : Interp) (L : Nat) (n : Int) (c0 c3 c4 c5 c6 c7 c8 c9 c10 c11 c12 c13 c14 : Value) (s : ByteArray) (w0 w : World) (hE : Env F w0) (hB0 : Below w0.heap.size w0 w) (hL0 : w0.heap.size ≤ L)
    (hL : Lx L c0 (.string s) (.int .i64 n) c3 c4 c5 c6 c7 c8 c9 c10 c11 c12 c13 c14 w) (hs : s.size ≤ 1048576) (h0 : 0 < s.size) (hnx : NoHex s) (D : Nat) (HD : Hid (runEnd isDig s.data.toList 0 = D)) (HD1 : Hid (runEnd isDig s.data.toList 1 = D)) (hD1 : 1 ≤ D) (hD : D ≤ s.size) (hD2 : D < s.size) (hdot : ((s[D].toNat : Int) == 46) = true) (E : Nat) (HE : Hid (runEnd isDig s.data.toList (D + 1) = E)) (_hE1 : D + 1 ≤ E) (hEs : E ≤ s.size) :
    Calls Tryz.prog 46 #[.pointer (some ⟨L, 0, none⟩)] w fun e w' => LexOut (numTok s.data.toList) s n L c0 c3 c4 c5 c6 c7 c8 c9 c10 c11 c12 c13 c14 w e w' := by
  have HZ : Hid (s.data.toList.length = s.size) := size_list s
  have HF : Hid (F.answers w.tape) := by unfold Hid; rw [hB0.tape]; exact hE.ans
  have HV : Hid (Env F w0) := hE
  have HB0 : Hid (Below w0.heap.size w0 w) := hB0
  have HL0 : Hid (w0.heap.size ≤ L) := hL0
  clear hE hB0 hL0
  have k1 := hL.at1.1
  have k2 := hL.at2.1
  have z1 := hL.at1.2
  have hlt := hL.lt
  have HL : Hid (Lx L c0 (.string s) (.int .i64 n) c3 c4 c5 c6 c7 c8 c9 c10 c11 c12 c13 c14 w) := hL
  clear hL
  have HX : Hid (NoHex s) := hnx
  clear hnx
  have HT : Hid (numTok s.data.toList = some (57381, E)) := by
    unfold Hid numTok
    rw [if_neg (noHex_not s HX.out), HD1.out, if_pos (by rw [get0 s D hD2, u8_of_int (n := 46) hdot (by omega)]; rfl), HE.out]
  go_enter Tryz.func46, Tryz.ntmps46
  go_upto_block 0 with fail
  go_cut [5] from 15 to 26 (fun j wd => j = .int .i64 D ∧ wd = w.alloc (.cells #[.int .i64 0, .int .i64 0, .string ⟨#[]⟩, .string ⟨#[]⟩] 51))
  case first =>
    go_wp2_with fail
    go_loop [5] (fun i => ∃ k : Nat, 0 ≤ k ∧ k ≤ s.size ∧ i = .int .i64 k ∧ Hid (runEnd isDig s.data.toList k = D)) (fun i => s.size - (intOf i).toNat)
    case atStart => exact ⟨0, by omega, by omega, by go_num, HD⟩
    case round =>
      obtain ⟨k, hk2, hk, rfl, hr⟩ := hrel
      by_cases hlt2 : k < s.size
      · cases hb : isDig s[k] with
        | true =>
          have hr2 : Hid (runEnd isDig s.data.toList (k + 1) = D) := by
            unfold Hid
            exact (runEnd_step _ _ _ (by rw [HZ.out]; exact hlt2) (by rw [getElem_list s k hlt2]; exact hb)).symm.trans hr.out
          go_wp2_with (go_at_call 45; refine (dig2_any _ _).mono ?_; rintro e w' ⟨rfl, hw⟩; replace hw := hw.symm; subst hw)
          go_round
          case rel => exact ⟨k + 1, by omega, by omega, by go_num, hr2⟩
          case measure => simp [intOf]; omega
        | false =>
          have hr2 : Hid (k = D) := by
            unfold Hid
            exact (runEnd_stop _ _ _ (by rw [HZ.out]; exact hlt2) (by rw [getElem_list s k hlt2]; exact hb)).symm.trans hr.out
          go_wp2_with (go_at_call 45; refine (dig2_any _ _).mono ?_; rintro e w' ⟨rfl, hw⟩; replace hw := hw.symm; subst hw)
          go_meet
          case rel => exact ⟨by rw [hr2.out]; try rfl, rfl⟩
      · have hr2 : Hid (k = D) := by
          unfold Hid
          exact (runEnd_end _ _ _ (by rw [HZ.out]; omega)).symm.trans hr.out
        go_wp2_with fail
        go_meet
        case rel => exact ⟨by rw [hr2.out]; try rfl, rfl⟩
  case rest =>
    obtain ⟨rfl, rfl⟩ := hcut
    go_wp2_with fail
    go_region
    go_upto_region 6 with fail
    go_cut [30] from 31 to 52 (fun b wd => b = .bool false ∧ wd = (w.alloc (.cells #[.int .i64 0, .int .i64 0, .string ⟨#[]⟩, .string ⟨#[]⟩] 51)).drew)
    case first =>
      cases hD1b : ((D : Int) == 1) with
      | false =>
        go_wp2
        go_meet
        case rel => exact ⟨rfl, rfl⟩
      | true =>
        rcases HX.out with h | ⟨h, h2⟩ | ⟨h, h2, h3, h4⟩
        · have h' : ¬ (1 : Int) < (s.size : Int) := by omega
          cases h48 : ((s[0].toNat : Int) == 48)
          all_goals go_wp2
          all_goals
            go_meet
            case rel => exact ⟨rfl, rfl⟩
        · go_wp2
          go_meet
          case rel => exact ⟨rfl, rfl⟩
        · have h' : (1 : Int) < (s.size : Int) := by omega
          go_wp2
          go_meet
          case rel => exact ⟨rfl, rfl⟩
    case rest =>
      obtain ⟨rfl, rfl⟩ := hcut
      go_upto_block 5 with fail
      go_cut [5] from 92 to 103 (fun j wd => j = .int .i64 E ∧ wd = (w.alloc (.cells #[.int .i64 0, .int .i64 0, .string ⟨#[]⟩, .string ⟨#[]⟩] 51)).drew)
      case first =>
        go_wp2_with fail
        go_loop [5] (fun i => ∃ k : Nat, D + 1 ≤ k ∧ k ≤ s.size ∧ i = .int .i64 k ∧ Hid (runEnd isDig s.data.toList k = E)) (fun i => s.size - (intOf i).toNat)
        case atStart => exact ⟨D + 1, by omega, by omega, by go_num, HE⟩
        case round =>
          obtain ⟨k, hk2, hk, rfl, hr⟩ := hrel
          by_cases hlt2 : k < s.size
          · cases hb : isDig s[k] with
            | true =>
              have hr2 : Hid (runEnd isDig s.data.toList (k + 1) = E) := by
                unfold Hid
                exact (runEnd_step _ _ _ (by rw [HZ.out]; exact hlt2) (by rw [getElem_list s k hlt2]; exact hb)).symm.trans hr.out
              go_wp2_with (go_at_call 45; refine (dig2_any _ _).mono ?_; rintro e w' ⟨rfl, hw⟩; replace hw := hw.symm; subst hw)
              go_round
              case rel => exact ⟨k + 1, by omega, by omega, by go_num, hr2⟩
              case measure => simp [intOf]; omega
            | false =>
              have hr2 : Hid (k = E) := by
                unfold Hid
                exact (runEnd_stop _ _ _ (by rw [HZ.out]; exact hlt2) (by rw [getElem_list s k hlt2]; exact hb)).symm.trans hr.out
              go_wp2_with (go_at_call 45; refine (dig2_any _ _).mono ?_; rintro e w' ⟨rfl, hw⟩; replace hw := hw.symm; subst hw)
              go_meet
              case rel => exact ⟨by rw [hr2.out]; try rfl, rfl⟩
          · have hr2 : Hid (k = E) := by
              unfold Hid
              exact (runEnd_end _ _ _ (by rw [HZ.out]; omega)).symm.trans hr.out
            go_wp2_with fail
            go_meet
            case rel => exact ⟨by rw [hr2.out]; try rfl, rfl⟩
      case rest =>
        obtain ⟨rfl, rfl⟩ := hcut
        go_wp2_with fail
        go_region
        go_wp2
        refine bodyPost_ret (v := .tuple #[.agg #[.int .i64 57381, .int .i64 n, .string (s.extract 0 E), .string (s.extract 0 E)], .bool true]) (by simp [results, Tryz.results46, go_sem]) rfl ?_
        exact Or.inl ⟨57381, E, _, _, HT.out, rfl, (((Kept.refl L w).set 1 _).alloc _).drew.drew, ((HL.out.set1 _).alloc _).drew.drew⟩
set_option maxRecDepth 100000 in
set_option maxHeartbeats 2000000 in
theorem number_dec (F : Interp) (L : Nat) (n : Int) (c0 c3 c4 c5 c6 c7 c8 c9 c10 c11 c12 c13 c14 : Value) (s : ByteArray) (w0 w : World) (hE : Env F w0) (hB0 : Below w0.heap.size w0 w) (hL0 : w0.heap.size ≤ L)
    (hL : Lx L c0 (.string s) (.int .i64 n) c3 c4 c5 c6 c7 c8 c9 c10 c11 c12 c13 c14 w) (hs : s.size ≤ 1048576) (h0 : 0 < s.size) (hnx : NoHex s) (D : Nat) (HD : Hid (runEnd isDig s.data.toList 0 = D)) (HD1 : Hid (runEnd isDig s.data.toList 1 = D)) (hD1 : 1 ≤ D) (hD : D ≤ s.size) (hnd : NoDot s D) (hdg : isDig s[0] = true) (hno : NoOct s h0 D) :
    Calls Tryz.prog 46 #[.pointer (some ⟨L, 0, none⟩)] w fun e w' => LexOut (numTok s.data.toList) s n L c0 c3 c4 c5 c6 c7 c8 c9 c10 c11 c12 c13 c14 w e w' := by
  have HZ : Hid (s.data.toList.length = s.size) := size_list s
  have HF : Hid (F.answers w.tape) := by unfold Hid; rw [hB0.tape]; exact hE.ans
  have HV : Hid (Env F w0) := hE
  have HB0 : Hid (Below w0.heap.size w0 w) := hB0
  have HL0 : Hid (w0.heap.size ≤ L) := hL0
  clear hE hB0 hL0
  have k1 := hL.at1.1
  have k2 := hL.at2.1
  have z1 := hL.at1.2
  have hlt := hL.lt
  have HL : Hid (Lx L c0 (.string s) (.int .i64 n) c3 c4 c5 c6 c7 c8 c9 c10 c11 c12 c13 c14 w) := hL
  clear hL
  have HX : Hid (NoHex s) := hnx
  clear hnx
  have HND : Hid (NoDot s D) := hnd
  clear hnd
  have hzz := size_extract s 0 D (by omega) hD
  have HZ2 : Hid ((s.extract 0 D).size ≤ 1048576) := by unfold Hid; omega
  have HZ3 : Hid ((s.extract 0 D).size ≠ 0) := by unfold Hid; omega
  clear hzz
  have HX2 : Hid (∀ (j : Nat) (hj : j < (s.extract 0 D).size), 0 ≤ hexV (s.extract 0 D)[j] ∧ hexV (s.extract 0 D)[j] < 10) := digs10 s D hD h0 hdg HD1.out
  have HNO : Hid (NoOct s h0 D) := hno
  clear hno hdg
  have HT : Hid (numTok s.data.toList = if valN 10 (s.data.toList.take D) ≤ 18446744073709551615 then some (57380, D) else none) := by
    unfold Hid numTok
    rw [if_neg (noHex_not s HX.out), HD1.out, if_neg (noDot_not s D HND.out), if_neg (noOct_not s h0 D HNO.out)]
  go_enter Tryz.func46, Tryz.ntmps46
  go_upto_block 0 with fail
  go_cut [5] from 15 to 26 (fun j wd => j = .int .i64 D ∧ wd = w.alloc (.cells #[.int .i64 0, .int .i64 0, .string ⟨#[]⟩, .string ⟨#[]⟩] 51))
  case first =>
    go_wp2_with fail
    go_loop [5] (fun i => ∃ k : Nat, 0 ≤ k ∧ k ≤ s.size ∧ i = .int .i64 k ∧ Hid (runEnd isDig s.data.toList k = D)) (fun i => s.size - (intOf i).toNat)
    case atStart => exact ⟨0, by omega, by omega, by go_num, HD⟩
    case round =>
      obtain ⟨k, hk2, hk, rfl, hr⟩ := hrel
      by_cases hlt2 : k < s.size
      · cases hb : isDig s[k] with
        | true =>
          have hr2 : Hid (runEnd isDig s.data.toList (k + 1) = D) := by
            unfold Hid
            exact (runEnd_step _ _ _ (by rw [HZ.out]; exact hlt2) (by rw [getElem_list s k hlt2]; exact hb)).symm.trans hr.out
          go_wp2_with (go_at_call 45; refine (dig2_any _ _).mono ?_; rintro e w' ⟨rfl, hw⟩; replace hw := hw.symm; subst hw)
          go_round
          case rel => exact ⟨k + 1, by omega, by omega, by go_num, hr2⟩
          case measure => simp [intOf]; omega
        | false =>
          have hr2 : Hid (k = D) := by
            unfold Hid
            exact (runEnd_stop _ _ _ (by rw [HZ.out]; exact hlt2) (by rw [getElem_list s k hlt2]; exact hb)).symm.trans hr.out
          go_wp2_with (go_at_call 45; refine (dig2_any _ _).mono ?_; rintro e w' ⟨rfl, hw⟩; replace hw := hw.symm; subst hw)
          go_meet
          case rel => exact ⟨by rw [hr2.out]; try rfl, rfl⟩
      · have hr2 : Hid (k = D) := by
          unfold Hid
          exact (runEnd_end _ _ _ (by rw [HZ.out]; omega)).symm.trans hr.out
        go_wp2_with fail
        go_meet
        case rel => exact ⟨by rw [hr2.out]; try rfl, rfl⟩
  case rest =>
    obtain ⟨rfl, rfl⟩ := hcut
    go_wp2_with fail
    go_region
    go_upto_region 6 with fail
    go_cut [30] from 31 to 52 (fun b wd => b = .bool false ∧ wd = (w.alloc (.cells #[.int .i64 0, .int .i64 0, .string ⟨#[]⟩, .string ⟨#[]⟩] 51)).drew)
    case first =>
      cases hD1b : ((D : Int) == 1) with
      | false =>
        go_wp2
        go_meet
        case rel => exact ⟨rfl, rfl⟩
      | true =>
        rcases HX.out with h | ⟨h, h2⟩ | ⟨h, h2, h3, h4⟩
        · have h' : ¬ (1 : Int) < (s.size : Int) := by omega
          cases h48 : ((s[0].toNat : Int) == 48)
          all_goals go_wp2
          all_goals
            go_meet
            case rel => exact ⟨rfl, rfl⟩
        · go_wp2
          go_meet
          case rel => exact ⟨rfl, rfl⟩
        · have h' : (1 : Int) < (s.size : Int) := by omega
          go_wp2
          go_meet
          case rel => exact ⟨rfl, rfl⟩
    case rest =>
      obtain ⟨rfl, rfl⟩ := hcut
      go_upto_region 13 with fail
      go_cut [79] from 80 to 89 (fun b wd => b = .bool false ∧ wd = (w.alloc (.cells #[.int .i64 0, .int .i64 0, .string ⟨#[]⟩, .string ⟨#[]⟩] 51)).drew)
      case first =>
        rcases HND.out with h | ⟨h, h2⟩
        all_goals go_wp2
        all_goals
          go_meet
          case rel => exact ⟨by first | rfl | rw [h2] | (exfalso; omega), rfl⟩
      case rest =>
        obtain ⟨rfl, rfl⟩ := hcut
        go_upto_region 19 with fail
        go_cut [121] from 122 to 128 (fun b wd => b = .bool false ∧ wd = (w.alloc (.cells #[.int .i64 0, .int .i64 0, .string ⟨#[]⟩, .string ⟨#[]⟩] 51)).drew)
        case first =>
          rcases HNO.out with h | ⟨h, h2⟩
          all_goals go_wp2
          all_goals
            go_meet
            case rel => exact ⟨by first | rfl | (rw [decide_eq_false (by omega)]), rfl⟩
        case rest =>
          obtain ⟨rfl, rfl⟩ := hcut
          go_wp2_with fail
          have hKW : Kept L w (((w.setCell ⟨L, 1, none⟩ (.string (s.extract D s.size))).alloc (.cells #[.int .i64 0, .int .i64 0, .string ⟨#[]⟩, .string ⟨#[]⟩] 51)).drew) := (((Kept.refl L w).set 1 _).alloc _).drew
          have hLW : Lx L c0 (.string (s.extract D s.size)) (.int .i64 n) c3 c4 c5 c6 c7 c8 c9 c10 c11 c12 c13 c14 (((w.setCell ⟨L, 1, none⟩ (.string (s.extract D s.size))).alloc (.cells #[.int .i64 0, .int .i64 0, .string ⟨#[]⟩, .string ⟨#[]⟩] 51)).drew) := ((HL.out.set1 _).alloc _).drew
          have hRW : Rx w.heap.size (((w.setCell ⟨L, 1, none⟩ (.string (s.extract D s.size))).alloc (.cells #[.int .i64 0, .int .i64 0, .string ⟨#[]⟩, .string ⟨#[]⟩] 51)).drew) := (Rx.newAt (w.setCell ⟨L, 1, none⟩ (.string (s.extract D s.size))) _ _ _ _ (by simp [World.setCell])).drew
          obtain ⟨te, pe, hv6⟩ := (HV.out.below (HB0.out.trans (hKW.old HL0.out HB0.out.size))).err
          refine (parse10 (s.extract 0 D) HZ3.out HZ2.out _ HX2.out te pe hv6).mono ?_
          rintro e w2 hpost
          obtain ⟨hcase, hb⟩ := hpost
          have HK2 : Hid (Kept L w w2) := hKW.below hb
          have hLx2 := hLW.below hb
          have hR2 : Rx w.heap.size w2 := hRW.kept (Kept.of_below (L := L) hb) (by omega)
          have k2b := hLx2.at2.1
          obtain ⟨⟨r0, q0⟩, ⟨r1, q1⟩, ⟨r2, q2⟩, ⟨r3, q3⟩⟩ := hR2.cells
          obtain ⟨y0, y1, y2, y3⟩ := hR2.frozen
          have hN2 := hR2.lt
          have HLx2 : Hid (Lx L c0 (.string (s.extract D s.size)) (.int .i64 n) c3 c4 c5 c6 c7 c8 c9 c10 c11 c12 c13 c14 w2) := hLx2
          have HR2 : Hid (Rx w.heap.size w2) := hR2
          have HE2 : Hid (Env F w2) := HV.out.below (HB0.out.trans (HK2.out.old HL0.out HB0.out.size))
          clear hKW hLW hRW hv6 hb hLx2 hR2
          rcases hcase with ⟨hv, m, hm, rfl⟩ | ⟨hv, N2, rfl⟩
          · have HT2 : Hid (numTok s.data.toList = some (57380, D)) := by unfold Hid; rw [extract0_list] at hv; rw [HT.out, if_pos hv]
            clear hv
            go_wp2_with fail
            go_region_with (go_at_call 56; refine (formatUint_any m hm _ (by exact HE2.out.pow)).mono ?_; rintro e w3 ⟨⟨t, rfl⟩, hb3⟩; have HK3 : Hid (Kept L w w3) := HK2.out.drew.below hb3; have hLx3 := HLx2.out.drew.below hb3; have k2c := hLx3.at2.1; have hR3 : Rx w.heap.size w3 := HR2.out.drew.kept (Kept.of_below (L := L) hb3) (by omega); obtain ⟨⟨x0, p0⟩, ⟨x1, p1⟩, ⟨x2, p2⟩, ⟨x3, p3⟩⟩ := hR3.cells; obtain ⟨v0, v1, v2, v3⟩ := hR3.frozen; have HLx3 : Hid (Lx L c0 (.string (s.extract D s.size)) (.int .i64 n) c3 c4 c5 c6 c7 c8 c9 c10 c11 c12 c13 c14 w3) := hLx3; clear hLx3 hb3 hR3)
            all_goals
              go_wp2
              refine bodyPost_ret (v := .tuple #[.agg #[.int .i64 57380, .int .i64 n, .string (s.extract 0 D), .string t], .bool true]) (by simp [results, Tryz.results46, go_sem, p0, p1, p2, p3]) rfl ?_
              exact Or.inl ⟨57380, D, t, _, HT2.out, rfl, HK3.out.put4 (Nat.le_refl _) _ _ _ _, HLx3.out.put4 (by omega) _ _ _ _⟩
          · have HT2 : Hid (numTok s.data.toList = none) := by unfold Hid; rw [extract0_list] at hv; rw [HT.out, if_neg (by omega)]
            clear hv
            go_wp2_with fail
            refine (fail_any L n c0 _ c3 c4 c5 c6 c7 c8 c9 c10 c11 c12 c13 c14 fFit _ _ (HLx2.out.alloc _) (spf_fFit F (s.extract 0 D) w2.heap.size _ HE2.out.ans (by go_simp))).mono ?_
            rintro e w3 ⟨rfl, D2, t, hk, hDD, hLx, hDt⟩
            have hR : Rx w.heap.size w3 := (HR2.out.alloc _).kept hk (by omega)
            obtain ⟨⟨x0, p0⟩, ⟨x1, p1⟩, ⟨x2, p2⟩, ⟨x3, p3⟩⟩ := hR.cells
            obtain ⟨v0, v1, v2, v3⟩ := hR.frozen
            have HK : Hid (Kept L w w3) := (HK2.out.alloc _).trans hk
            have hDw : w.heap.size < D2 := by simp at hDD; omega
            have HLx : Hid (Lx L c0 (.string (s.extract D s.size)) (.int .i64 n) c3 c4 c5 c6 c7 c8 c9 c10 c11 c12 c13 (.iface 27 (.pointer (some ⟨D2, 0, none⟩))) w3) := hLx
            have HDt : Hid (w3.heap[D2]? = some (.cells #[.string ⟨#[]⟩, .int .i64 n, .string t] 30 (0, 0))) := hDt
            clear hk hDD hLx hDt hR
            go_wp2
            refine bodyPost_ret (v := .tuple #[.agg #[.int .i64 57383, .int .i64 n, .string ⟨#[]⟩, .string ⟨#[]⟩], .bool true]) (by simp [results, Tryz.results46, go_sem, p0, p1, p2, p3]) rfl ?_
            refine Or.inr ⟨D2, t, _, HT2.out, rfl, HK.out.put4 (Nat.le_refl _) _ _ _ _, by omega, HLx.out.put4 (by omega) _ _ _ _, ?_⟩
            rw [heap_put4 (by omega)]; exact HDt.out
set_option maxRecDepth 100000 in
set_option maxHeartbeats 2000000 in
theorem number_octbad (F : Interp) (L : Nat) (n : Int) (c0 c3 c4 c5 c6 c7 c8 c9 c10 c11 c12 c13 c14 : Value) (s : ByteArray) (w0 w : World) (hE : Env F w0) (hB0 : Below w0.heap.size w0 w) (hL0 : w0.heap.size ≤ L)
    (hL : Lx L c0 (.string s) (.int .i64 n) c3 c4 c5 c6 c7 c8 c9 c10 c11 c12 c13 c14 w) (hs : s.size ≤ 1048576) (h0 : 0 < s.size) (hnx : NoHex s) (D : Nat) (HD : Hid (runEnd isDig s.data.toList 0 = D)) (HD1 : Hid (runEnd isDig s.data.toList 1 = D)) (_hD1 : 1 ≤ D) (hD : D ≤ s.size) (hnd : NoDot s D) (hdg : isDig s[0] = true) (h48 : ((s[0].toNat : Int) == 48) = true) (h1D : 1 < D) (ho : (s.data.toList.take D).any (fun c => decide (55 < c.toNat)) = true) :
    Calls Tryz.prog 46 #[.pointer (some ⟨L, 0, none⟩)] w fun e w' => LexOut (numTok s.data.toList) s n L c0 c3 c4 c5 c6 c7 c8 c9 c10 c11 c12 c13 c14 w e w' := by
  have HZ : Hid (s.data.toList.length = s.size) := size_list s
  have HF : Hid (F.answers w.tape) := by unfold Hid; rw [hB0.tape]; exact hE.ans
  have HV : Hid (Env F w0) := hE
  have HB0 : Hid (Below w0.heap.size w0 w) := hB0
  have HL0 : Hid (w0.heap.size ≤ L) := hL0
  clear hE hB0 hL0
  have k1 := hL.at1.1
  have k2 := hL.at2.1
  have z1 := hL.at1.2
  have hlt := hL.lt
  have HL : Hid (Lx L c0 (.string s) (.int .i64 n) c3 c4 c5 c6 c7 c8 c9 c10 c11 c12 c13 c14 w) := hL
  clear hL
  have HX : Hid (NoHex s) := hnx
  clear hnx
  have HND : Hid (NoDot s D) := hnd
  clear hnd
  have hzz := size_extract s 0 D (by omega) hD
  have HZ2 : Hid ((s.extract 0 D).size ≤ 1048576) := by unfold Hid; omega
  have HZ3 : Hid ((s.extract 0 D).size ≠ 0) := by unfold Hid; omega
  clear hzz
  have HT : Hid (numTok s.data.toList = none) := by
    unfold Hid numTok
    rw [if_neg (noHex_not s HX.out), HD1.out, if_neg (noDot_not s D HND.out), if_pos (yesOct s h0 D h48 h1D), if_pos ho]
  have HTR : Hid (((⟨(Lib.trimS (s.extract 0 D).data.toList [48, 49, 50, 51, 52, 53, 54, 55]).toArray⟩ : ByteArray).toList.isEmpty) = !(s.data.toList.take D).any (fun c => decide (55 < c.toNat))) := trim_oct s D hD h0 hdg HD1.out
  have HO : Hid ((s.data.toList.take D).any (fun c => decide (55 < c.toNat)) = true) := ho
  have h1D' : (1 : Int) < (D : Int) := by omega
  clear ho hdg
  go_enter Tryz.func46, Tryz.ntmps46
  go_upto_block 0 with fail
  go_cut [5] from 15 to 26 (fun j wd => j = .int .i64 D ∧ wd = w.alloc (.cells #[.int .i64 0, .int .i64 0, .string ⟨#[]⟩, .string ⟨#[]⟩] 51))
  case first =>
    go_wp2_with fail
    go_loop [5] (fun i => ∃ k : Nat, 0 ≤ k ∧ k ≤ s.size ∧ i = .int .i64 k ∧ Hid (runEnd isDig s.data.toList k = D)) (fun i => s.size - (intOf i).toNat)
    case atStart => exact ⟨0, by omega, by omega, by go_num, HD⟩
    case round =>
      obtain ⟨k, hk2, hk, rfl, hr⟩ := hrel
      by_cases hlt2 : k < s.size
      · cases hb : isDig s[k] with
        | true =>
          have hr2 : Hid (runEnd isDig s.data.toList (k + 1) = D) := by
            unfold Hid
            exact (runEnd_step _ _ _ (by rw [HZ.out]; exact hlt2) (by rw [getElem_list s k hlt2]; exact hb)).symm.trans hr.out
          go_wp2_with (go_at_call 45; refine (dig2_any _ _).mono ?_; rintro e w' ⟨rfl, hw⟩; replace hw := hw.symm; subst hw)
          go_round
          case rel => exact ⟨k + 1, by omega, by omega, by go_num, hr2⟩
          case measure => simp [intOf]; omega
        | false =>
          have hr2 : Hid (k = D) := by
            unfold Hid
            exact (runEnd_stop _ _ _ (by rw [HZ.out]; exact hlt2) (by rw [getElem_list s k hlt2]; exact hb)).symm.trans hr.out
          go_wp2_with (go_at_call 45; refine (dig2_any _ _).mono ?_; rintro e w' ⟨rfl, hw⟩; replace hw := hw.symm; subst hw)
          go_meet
          case rel => exact ⟨by rw [hr2.out]; try rfl, rfl⟩
      · have hr2 : Hid (k = D) := by
          unfold Hid
          exact (runEnd_end _ _ _ (by rw [HZ.out]; omega)).symm.trans hr.out
        go_wp2_with fail
        go_meet
        case rel => exact ⟨by rw [hr2.out]; try rfl, rfl⟩
  case rest =>
    obtain ⟨rfl, rfl⟩ := hcut
    go_wp2_with fail
    go_region
    go_upto_region 6 with fail
    go_cut [30] from 31 to 52 (fun b wd => b = .bool false ∧ wd = (w.alloc (.cells #[.int .i64 0, .int .i64 0, .string ⟨#[]⟩, .string ⟨#[]⟩] 51)).drew)
    case first =>
      cases hD1b : ((D : Int) == 1) with
      | false =>
        go_wp2
        go_meet
        case rel => exact ⟨rfl, rfl⟩
      | true => exfalso; rw [beq_iff_eq] at hD1b; omega
    case rest =>
      obtain ⟨rfl, rfl⟩ := hcut
      go_upto_region 13 with fail
      go_cut [79] from 80 to 89 (fun b wd => b = .bool false ∧ wd = (w.alloc (.cells #[.int .i64 0, .int .i64 0, .string ⟨#[]⟩, .string ⟨#[]⟩] 51)).drew)
      case first =>
        rcases HND.out with h | ⟨h, h2⟩
        all_goals go_wp2
        all_goals
          go_meet
          case rel => exact ⟨by first | rfl | rw [h2] | (exfalso; omega), rfl⟩
      case rest =>
        obtain ⟨rfl, rfl⟩ := hcut
        go_wp2_with fail
        refine (trim_any (s.extract 0 D) HZ2.out _).mono ?_
        rintro e w1 ⟨rfl, hb⟩
        have hKW : Kept L w w1 := ((Kept.refl L w).alloc _).drew.below hb
        have hLW := ((HL.out.alloc _).drew).below hb
        have hRW : Rx w.heap.size w1 := ((Rx.new w _ _ _ _).drew).kept (Kept.of_below (L := L) hb) (by omega)
        have HK1 : Hid (Kept L w w1) := hKW
        have k1b := hLW.at1.1
        have z1b := hLW.at1.2
        have k2b := hLW.at2.1
        have HL1 : Hid (Lx L c0 (.string s) (.int .i64 n) c3 c4 c5 c6 c7 c8 c9 c10 c11 c12 c13 c14 w1) := hLW
        have HR1 : Hid (Rx w.heap.size w1) := hRW
        have hN1 := hRW.lt
        clear hKW hLW hRW hb
        obtain ⟨tr, htr⟩ : ∃ tr : ByteArray, (⟨(Lib.trimS (s.extract 0 D).data.toList [48, 49, 50, 51, 52, 53, 54, 55]).toArray⟩ : ByteArray) = tr := ⟨_, rfl⟩
        have HTR2 := HTR.out
        rw [htr, HO.out] at HTR2
        rw [htr]
        have hem : tr.toList.isEmpty = false := HTR2
        clear HTR2 htr HTR
        go_wp2_with fail
        refine (fail_any L n c0 _ c3 c4 c5 c6 c7 c8 c9 c10 c11 c12 c13 c14 fOct _ _ (HL1.out.alloc _) (spf_fOct F (s.extract 0 D) w1.heap.size _ (by rw [show (World.alloc _ _).tape = w1.tape from rfl, HK1.out.tape]; exact HF.out) (by go_simp))).mono ?_
        rintro e w3 ⟨rfl, D2, t, hk, hDD, hLx, hDt⟩
        have hR : Rx w.heap.size w3 := (HR1.out.alloc _).kept hk (by omega)
        obtain ⟨⟨x0, p0⟩, ⟨x1, p1⟩, ⟨x2, p2⟩, ⟨x3, p3⟩⟩ := hR.cells
        obtain ⟨v0, v1, v2, v3⟩ := hR.frozen
        have HK : Hid (Kept L w w3) := (HK1.out.alloc _).trans hk
        have hDw : w.heap.size < D2 := by simp at hDD; omega
        have HLx : Hid (Lx L c0 (.string s) (.int .i64 n) c3 c4 c5 c6 c7 c8 c9 c10 c11 c12 c13 (.iface 27 (.pointer (some ⟨D2, 0, none⟩))) w3) := hLx
        have HDt : Hid (w3.heap[D2]? = some (.cells #[.string ⟨#[]⟩, .int .i64 n, .string t] 30 (0, 0))) := hDt
        clear hk hDD hLx hDt hR
        go_wp2
        refine bodyPost_ret (v := .tuple #[.agg #[.int .i64 57383, .int .i64 n, .string ⟨#[]⟩, .string ⟨#[]⟩], .bool true]) (by simp [results, Tryz.results46, go_sem, p0, p1, p2, p3]) rfl ?_
        refine Or.inr ⟨D2, t, _, HT.out, rfl, HK.out.put4 (Nat.le_refl _) _ _ _ _, by omega, HLx.out.put4 (by omega) _ _ _ _, ?_⟩
        rw [heap_put4 (by omega)]; exact HDt.out
set_option maxRecDepth 100000 in
set_option maxHeartbeats 2000000 in
theorem number_oct (F : Interp) (L : Nat) (n : Int) (c0 c3 c4 c5 c6 c7 c8 c9 c10 c11 c12 c13 c14 : Value) (s : ByteArray) (w0 w : World) (hE : Env F w0) (hB0 : Below w0.heap.size w0 w) (hL0 : w0.heap.size ≤ L)
    (hL : Lx L c0 (.string s) (.int .i64 n) c3 c4 c5 c6 c7 c8 c9 c10 c11 c12 c13 c14 w) (hs : s.size ≤ 1048576) (h0 : 0 < s.size) (hnx : NoHex s) (D : Nat) (HD : Hid (runEnd isDig s.data.toList 0 = D)) (HD1 : Hid (runEnd isDig s.data.toList 1 = D)) (_hD1 : 1 ≤ D) (hD : D ≤ s.size) (hnd : NoDot s D) (hdg : isDig s[0] = true) (h48 : ((s[0].toNat : Int) == 48) = true) (h1D : 1 < D) (ho : (s.data.toList.take D).any (fun c => decide (55 < c.toNat)) = false) :
    Calls Tryz.prog 46 #[.pointer (some ⟨L, 0, none⟩)] w fun e w' => LexOut (numTok s.data.toList) s n L c0 c3 c4 c5 c6 c7 c8 c9 c10 c11 c12 c13 c14 w e w' := by
  have HZ : Hid (s.data.toList.length = s.size) := size_list s
  have HF : Hid (F.answers w.tape) := by unfold Hid; rw [hB0.tape]; exact hE.ans
  have HV : Hid (Env F w0) := hE
  have HB0 : Hid (Below w0.heap.size w0 w) := hB0
  have HL0 : Hid (w0.heap.size ≤ L) := hL0
  clear hE hB0 hL0
  have k1 := hL.at1.1
  have k2 := hL.at2.1
  have z1 := hL.at1.2
  have hlt := hL.lt
  have HL : Hid (Lx L c0 (.string s) (.int .i64 n) c3 c4 c5 c6 c7 c8 c9 c10 c11 c12 c13 c14 w) := hL
  clear hL
  have HX : Hid (NoHex s) := hnx
  clear hnx
  have HND : Hid (NoDot s D) := hnd
  clear hnd
  have hzz := size_extract s 0 D (by omega) hD
  have HZ2 : Hid ((s.extract 0 D).size ≤ 1048576) := by unfold Hid; omega
  have HZ3 : Hid ((s.extract 0 D).size ≠ 0) := by unfold Hid; omega
  clear hzz
  have HX2 : Hid (∀ (j : Nat) (hj : j < (s.extract 0 D).size), 0 ≤ hexV (s.extract 0 D)[j] ∧ hexV (s.extract 0 D)[j] < 8) := digs8 s D hD h0 hdg HD1.out ho
  have HT : Hid (numTok s.data.toList = if valN 8 (s.data.toList.take D) ≤ 18446744073709551615 then some (57380, D) else none) := by
    unfold Hid numTok
    rw [if_neg (noHex_not s HX.out), HD1.out, if_neg (noDot_not s D HND.out), if_pos (yesOct s h0 D h48 h1D), if_neg (by rw [ho]; decide)]
  have HTR : Hid (((⟨(Lib.trimS (s.extract 0 D).data.toList [48, 49, 50, 51, 52, 53, 54, 55]).toArray⟩ : ByteArray).toList.isEmpty) = !(s.data.toList.take D).any (fun c => decide (55 < c.toNat))) := trim_oct s D hD h0 hdg HD1.out
  have HO : Hid ((s.data.toList.take D).any (fun c => decide (55 < c.toNat)) = false) := ho
  have h1D' : (1 : Int) < (D : Int) := by omega
  clear ho hdg
  go_enter Tryz.func46, Tryz.ntmps46
  go_upto_block 0 with fail
  go_cut [5] from 15 to 26 (fun j wd => j = .int .i64 D ∧ wd = w.alloc (.cells #[.int .i64 0, .int .i64 0, .string ⟨#[]⟩, .string ⟨#[]⟩] 51))
  case first =>
    go_wp2_with fail
    go_loop [5] (fun i => ∃ k : Nat, 0 ≤ k ∧ k ≤ s.size ∧ i = .int .i64 k ∧ Hid (runEnd isDig s.data.toList k = D)) (fun i => s.size - (intOf i).toNat)
    case atStart => exact ⟨0, by omega, by omega, by go_num, HD⟩
    case round =>
      obtain ⟨k, hk2, hk, rfl, hr⟩ := hrel
      by_cases hlt2 : k < s.size
      · cases hb : isDig s[k] with
        | true =>
          have hr2 : Hid (runEnd isDig s.data.toList (k + 1) = D) := by
            unfold Hid
            exact (runEnd_step _ _ _ (by rw [HZ.out]; exact hlt2) (by rw [getElem_list s k hlt2]; exact hb)).symm.trans hr.out
          go_wp2_with (go_at_call 45; refine (dig2_any _ _).mono ?_; rintro e w' ⟨rfl, hw⟩; replace hw := hw.symm; subst hw)
          go_round
          case rel => exact ⟨k + 1, by omega, by omega, by go_num, hr2⟩
          case measure => simp [intOf]; omega
        | false =>
          have hr2 : Hid (k = D) := by
            unfold Hid
            exact (runEnd_stop _ _ _ (by rw [HZ.out]; exact hlt2) (by rw [getElem_list s k hlt2]; exact hb)).symm.trans hr.out
          go_wp2_with (go_at_call 45; refine (dig2_any _ _).mono ?_; rintro e w' ⟨rfl, hw⟩; replace hw := hw.symm; subst hw)
          go_meet
          case rel => exact ⟨by rw [hr2.out]; try rfl, rfl⟩
      · have hr2 : Hid (k = D) := by
          unfold Hid
          exact (runEnd_end _ _ _ (by rw [HZ.out]; omega)).symm.trans hr.out
        go_wp2_with fail
        go_meet
        case rel => exact ⟨by rw [hr2.out]; try rfl, rfl⟩
  case rest =>
    obtain ⟨rfl, rfl⟩ := hcut
    go_wp2_with fail
    go_region
    go_upto_region 6 with fail
    go_cut [30] from 31 to 52 (fun b wd => b = .bool false ∧ wd = (w.alloc (.cells #[.int .i64 0, .int .i64 0, .string ⟨#[]⟩, .string ⟨#[]⟩] 51)).drew)
    case first =>
      cases hD1b : ((D : Int) == 1) with
      | false =>
        go_wp2
        go_meet
        case rel => exact ⟨rfl, rfl⟩
      | true => exfalso; rw [beq_iff_eq] at hD1b; omega
    case rest =>
      obtain ⟨rfl, rfl⟩ := hcut
      go_upto_region 13 with fail
      go_cut [79] from 80 to 89 (fun b wd => b = .bool false ∧ wd = (w.alloc (.cells #[.int .i64 0, .int .i64 0, .string ⟨#[]⟩, .string ⟨#[]⟩] 51)).drew)
      case first =>
        rcases HND.out with h | ⟨h, h2⟩
        all_goals go_wp2
        all_goals
          go_meet
          case rel => exact ⟨by first | rfl | rw [h2] | (exfalso; omega), rfl⟩
      case rest =>
        obtain ⟨rfl, rfl⟩ := hcut
        go_wp2_with fail
        refine (trim_any (s.extract 0 D) HZ2.out _).mono ?_
        rintro e w1 ⟨rfl, hb⟩
        have hKW : Kept L w w1 := ((Kept.refl L w).alloc _).drew.below hb
        have hLW := ((HL.out.alloc _).drew).below hb
        have hRW : Rx w.heap.size w1 := ((Rx.new w _ _ _ _).drew).kept (Kept.of_below (L := L) hb) (by omega)
        have HK1 : Hid (Kept L w w1) := hKW
        have k1b := hLW.at1.1
        have z1b := hLW.at1.2
        have k2b := hLW.at2.1
        have HL1 : Hid (Lx L c0 (.string s) (.int .i64 n) c3 c4 c5 c6 c7 c8 c9 c10 c11 c12 c13 c14 w1) := hLW
        have HR1 : Hid (Rx w.heap.size w1) := hRW
        have hN1 := hRW.lt
        clear hKW hLW hRW hb
        obtain ⟨tr, htr⟩ : ∃ tr : ByteArray, (⟨(Lib.trimS (s.extract 0 D).data.toList [48, 49, 50, 51, 52, 53, 54, 55]).toArray⟩ : ByteArray) = tr := ⟨_, rfl⟩
        have HTR2 := HTR.out
        rw [htr, HO.out] at HTR2
        rw [htr]
        have hem : tr.toList.isEmpty = true := HTR2
        clear HTR2 htr HTR
        go_wp2_with fail
        have hKW : Kept L w (w1.setCell ⟨L, 1, none⟩ (.string (s.extract D s.size))) := HK1.out.set 1 _
        have hLW : Lx L c0 (.string (s.extract D s.size)) (.int .i64 n) c3 c4 c5 c6 c7 c8 c9 c10 c11 c12 c13 c14 (w1.setCell ⟨L, 1, none⟩ (.string (s.extract D s.size))) := HL1.out.set1 _
        have hRW : Rx w.heap.size (w1.setCell ⟨L, 1, none⟩ (.string (s.extract D s.size))) := HR1.out.set (by simp; omega) _
        obtain ⟨te, pe, hv6⟩ := (HV.out.below (HB0.out.trans (hKW.old HL0.out HB0.out.size))).err
        refine (parse8 (s.extract 0 D) HZ3.out HZ2.out _ HX2.out te pe hv6).mono ?_
        rintro e w2 hpost
        obtain ⟨hcase, hb⟩ := hpost
        have HK2 : Hid (Kept L w w2) := hKW.below hb
        have hLx2 := hLW.below hb
        have hR2 : Rx w.heap.size w2 := hRW.kept (Kept.of_below (L := L) hb) (by omega)
        have k2b := hLx2.at2.1
        obtain ⟨⟨r0, q0⟩, ⟨r1, q1⟩, ⟨r2, q2⟩, ⟨r3, q3⟩⟩ := hR2.cells
        obtain ⟨y0, y1, y2, y3⟩ := hR2.frozen
        have hN2 := hR2.lt
        have HLx2 : Hid (Lx L c0 (.string (s.extract D s.size)) (.int .i64 n) c3 c4 c5 c6 c7 c8 c9 c10 c11 c12 c13 c14 w2) := hLx2
        have HR2 : Hid (Rx w.heap.size w2) := hR2
        have HE2 : Hid (Env F w2) := HV.out.below (HB0.out.trans (HK2.out.old HL0.out HB0.out.size))
        clear hKW hLW hRW hv6 hb hLx2 hR2
        rcases hcase with ⟨hv, m, hm, rfl⟩ | ⟨hv, N2, rfl⟩
        · have HT2 : Hid (numTok s.data.toList = some (57380, D)) := by unfold Hid; rw [extract0_list] at hv; rw [HT.out, if_pos hv]
          clear hv
          go_wp2_with fail
          go_region_with (go_at_call 56; refine (formatUint_any m hm _ (by exact HE2.out.pow)).mono ?_; rintro e w3 ⟨⟨t, rfl⟩, hb3⟩; have HK3 : Hid (Kept L w w3) := HK2.out.drew.below hb3; have hLx3 := HLx2.out.drew.below hb3; have k2c := hLx3.at2.1; have hR3 : Rx w.heap.size w3 := HR2.out.drew.kept (Kept.of_below (L := L) hb3) (by omega); obtain ⟨⟨x0, p0⟩, ⟨x1, p1⟩, ⟨x2, p2⟩, ⟨x3, p3⟩⟩ := hR3.cells; obtain ⟨v0, v1, v2, v3⟩ := hR3.frozen; have HLx3 : Hid (Lx L c0 (.string (s.extract D s.size)) (.int .i64 n) c3 c4 c5 c6 c7 c8 c9 c10 c11 c12 c13 c14 w3) := hLx3; clear hLx3 hb3 hR3)
          all_goals
            go_wp2
            refine bodyPost_ret (v := .tuple #[.agg #[.int .i64 57380, .int .i64 n, .string (s.extract 0 D), .string t], .bool true]) (by simp [results, Tryz.results46, go_sem, p0, p1, p2, p3]) rfl ?_
            exact Or.inl ⟨57380, D, t, _, HT2.out, rfl, HK3.out.put4 (Nat.le_refl _) _ _ _ _, HLx3.out.put4 (by omega) _ _ _ _⟩
        · have HT2 : Hid (numTok s.data.toList = none) := by unfold Hid; rw [extract0_list] at hv; rw [HT.out, if_neg (by omega)]
          clear hv
          go_wp2_with fail
          refine (fail_any L n c0 _ c3 c4 c5 c6 c7 c8 c9 c10 c11 c12 c13 c14 fFit _ _ (HLx2.out.alloc _) (spf_fFit F (s.extract 0 D) w2.heap.size _ HE2.out.ans (by go_simp))).mono ?_
          rintro e w3 ⟨rfl, D2, t, hk, hDD, hLx, hDt⟩
          have hR : Rx w.heap.size w3 := (HR2.out.alloc _).kept hk (by omega)
          obtain ⟨⟨x0, p0⟩, ⟨x1, p1⟩, ⟨x2, p2⟩, ⟨x3, p3⟩⟩ := hR.cells
          obtain ⟨v0, v1, v2, v3⟩ := hR.frozen
          have HK : Hid (Kept L w w3) := (HK2.out.alloc _).trans hk
          have hDw : w.heap.size < D2 := by simp at hDD; omega
          have HLx : Hid (Lx L c0 (.string (s.extract D s.size)) (.int .i64 n) c3 c4 c5 c6 c7 c8 c9 c10 c11 c12 c13 (.iface 27 (.pointer (some ⟨D2, 0, none⟩))) w3) := hLx
          have HDt : Hid (w3.heap[D2]? = some (.cells #[.string ⟨#[]⟩, .int .i64 n, .string t] 30 (0, 0))) := hDt
          clear hk hDD hLx hDt hR
          go_wp2
          refine bodyPost_ret (v := .tuple #[.agg #[.int .i64 57383, .int .i64 n, .string ⟨#[]⟩, .string ⟨#[]⟩], .bool true]) (by simp [results, Tryz.results46, go_sem, p0, p1, p2, p3]) rfl ?_
          refine Or.inr ⟨D2, t, _, HT2.out, rfl, HK.out.put4 (Nat.le_refl _) _ _ _ _, by omega, HLx.out.put4 (by omega) _ _ _ _, ?_⟩
          rw [heap_put4 (by omega)]; exact HDt.out
/-- (*lexer).number: at every rest of a line that begins with a digit. -/
theorem number_any (F : Interp) (L : Nat) (n : Int) (c0 c3 c4 c5 c6 c7 c8 c9 c10 c11 c12 c13 c14 : Value) (s : ByteArray) (w0 w : World) (hE : Env F w0) (hB0 : Below w0.heap.size w0 w) (hL0 : w0.heap.size ≤ L)
    (hL : Lx L c0 (.string s) (.int .i64 n) c3 c4 c5 c6 c7 c8 c9 c10 c11 c12 c13 c14 w) (hs : s.size ≤ 1048576) (h0 : 0 < s.size) (hd : isDig s[0] = true) :
    Calls Tryz.prog 46 #[.pointer (some ⟨L, 0, none⟩)] w fun e w' => LexOut (numTok s.data.toList) s n L c0 c3 c4 c5 c6 c7 c8 c9 c10 c11 c12 c13 c14 w e w' := by
  have hst : runEnd isDig s.data.toList 0 = runEnd isDig s.data.toList 1 := runEnd_step _ _ _ (by rw [size_list]; exact h0) (by rw [getElem_list s 0 h0]; exact hd)
  rcases hex_or s with ⟨h1, h2, h3⟩ | hnx
  · have hx2 : (((s[1]'h1).toNat : Int) == 120) = true ∨ ((((s[1]'h1).toNat : Int) == 120) = false ∧ (((s[1]'h1).toNat : Int) == 88) = true) := by
      rcases h3 with hx | hx
      · exact Or.inl hx
      · refine Or.inr ⟨?_, hx⟩
        rw [beq_eq_false_iff_ne]; rw [beq_iff_eq] at hx; omega
    have hD : runEnd isDig s.data.toList 0 = 1 := by
      rw [hst]
      refine runEnd_stop _ _ _ (by rw [size_list]; exact h1) ?_
      rw [getElem_list s 1 h1]
      simp only [isDig, Bool.and_eq_false_iff, decide_eq_false_iff_not]
      rcases h3 with hx | hx <;> (rw [beq_iff_eq] at hx; omega)
    obtain ⟨hE1, hE2⟩ := runEnd_le isHex s.data.toList 2 (by rw [size_list]; omega)
    rw [size_list] at hE2
    by_cases h2E : runEnd isHex s.data.toList 2 = 2
    · exact number_hexbad F L n c0 c3 c4 c5 c6 c7 c8 c9 c10 c11 c12 c13 c14 s w0 w hE hB0 hL0 hL hs h1 h2 hx2 hD _ rfl h2E
    · exact number_hex F L n c0 c3 c4 c5 c6 c7 c8 c9 c10 c11 c12 c13 c14 s w0 w hE hB0 hL0 hL hs h1 h2 hx2 hD _ rfl (by omega) hE2
  · obtain ⟨hD1, hD⟩ := runEnd_le isDig s.data.toList 1 (by rw [size_list]; omega)
    rw [size_list] at hD
    by_cases hdot : ∃ h : runEnd isDig s.data.toList 1 < s.size, ((s[runEnd isDig s.data.toList 1].toNat : Int) == 46) = true
    · obtain ⟨hD2, hdot⟩ := hdot
      obtain ⟨hE1, hE2⟩ := runEnd_le isDig s.data.toList (runEnd isDig s.data.toList 1 + 1) (by rw [size_list]; omega)
      rw [size_list] at hE2
      exact number_dot F L n c0 c3 c4 c5 c6 c7 c8 c9 c10 c11 c12 c13 c14 s w0 w hE hB0 hL0 hL hs h0 hnx _ hst rfl hD1 hD hD2 hdot _ rfl hE1 hE2
    · have hnd : NoDot s (runEnd isDig s.data.toList 1) := by
        rcases Nat.lt_or_ge (runEnd isDig s.data.toList 1) s.size with h | h
        · exact Or.inr ⟨h, by rw [Bool.eq_false_iff]; exact fun e => hdot ⟨h, e⟩⟩
        · exact Or.inl h
      cases h48 : ((s[0].toNat : Int) == 48) with
      | false => exact number_dec F L n c0 c3 c4 c5 c6 c7 c8 c9 c10 c11 c12 c13 c14 s w0 w hE hB0 hL0 hL hs h0 hnx _ hst rfl hD1 hD hnd hd (Or.inl h48)
      | true =>
        by_cases h1D : 1 < runEnd isDig s.data.toList 1
        · cases ho : (s.data.toList.take (runEnd isDig s.data.toList 1)).any (fun c => decide (55 < c.toNat)) with
          | true => exact number_octbad F L n c0 c3 c4 c5 c6 c7 c8 c9 c10 c11 c12 c13 c14 s w0 w hE hB0 hL0 hL hs h0 hnx _ hst rfl hD1 hD hnd hd h48 h1D ho
          | false => exact number_oct F L n c0 c3 c4 c5 c6 c7 c8 c9 c10 c11 c12 c13 c14 s w0 w hE hB0 hL0 hL hs h0 hnx _ hst rfl hD1 hD hnd hd h48 h1D ho
        · exact number_dec F L n c0 c3 c4 c5 c6 c7 c8 c9 c10 c11 c12 c13 c14 s w0 w hE hB0 hL0 hL hs h0 hnx _ hst rfl hD1 hD hnd hd (Or.inr ⟨h48, by omega⟩)
end Go.Proofs.Qxb6613210aGreatFmt
