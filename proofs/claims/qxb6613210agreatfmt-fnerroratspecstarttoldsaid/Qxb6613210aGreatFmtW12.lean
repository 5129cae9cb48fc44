import Derived.Test.Qxb6613210aGreatFmtChecked
import Derived.Test.Qxb6613210aGreatFmtLaw
import Derived.Test.Qxb6613210aGreatFmtPlain4
import Derived.WalkKit
import Derived.WalkSpells
import Derived.BigCall
import Derived.BigGuard
import Derived.Shelf.Strconv.Quote
import Derived.Laws.BitsLemmas
namespace Go.Proofs.Qxb6613210aGreatFmt
open Go.RowKit Pl
open Go.Lib (OwnBuf intCells)

theorem byte5 : (Tryz.prog.info? 5).map (fun i => (i.zero, i.size, i.bytes)) = some (some (.int .u8 0), 1, 1) := by kernel_rfl

/-- An append of the bytes of one more byte, quoted: the buffer behind it. -/
theorem buf_next {B : Nat} {v : Value} {n : Nat} {W0 w : World} (s : ByteArray) (k : Nat) (hk : k < s.size) (cs : List Int) (hcs : qEsc s[k] = cs)
    (h : OwnBuf B 5 v (n + cs.length) (intCells (qHead (s.data.toList.take k)) ++ intCells cs) W0 w) (hn : n = (qHead (s.data.toList.take k)).length) :
    OwnBuf B 5 v (qHead (s.data.toList.take (k + 1))).length (intCells (qHead (s.data.toList.take (k + 1)))) W0 w := by
  rw [take_snoc s k hk, qHead_snoc, hcs]
  have e1 : intCells (qHead (s.data.toList.take k) ++ cs) = intCells (qHead (s.data.toList.take k)) ++ intCells cs := by simp [intCells]
  rw [e1, List.length_append, ← hn]
  exact h

theorem hexAt : ∀ (x : Nat) (h : x < 16), ((({ data := #[48, 49, 50, 51, 52, 53, 54, 55, 56, 57, 97, 98, 99, 100, 101, 102] } : ByteArray)[x]'h).toNat : Int) = Lib.hexDigit x
  | 0, _ => rfl | 1, _ => rfl | 2, _ => rfl | 3, _ => rfl | 4, _ => rfl | 5, _ => rfl | 6, _ => rfl | 7, _ => rfl
  | 8, _ => rfl | 9, _ => rfl | 10, _ => rfl | 11, _ => rfl | 12, _ => rfl | 13, _ => rfl | 14, _ => rfl | 15, _ => rfl
  | n + 16, h => absurd h (by omega)
theorem hex_list (n : Nat) (hn : n < 128) (p1 : ((n : Int) / 16).toNat < 16) (p2 : ((n : Int) % 16).toNat < 16) :
    ([92, 120, Lib.hexDigit (n / 16), Lib.hexDigit (n % 16)] : List Int) = [92, 120, ((({ data := #[48, 49, 50, 51, 52, 53, 54, 55, 56, 57, 97, 98, 99, 100, 101, 102] } : ByteArray)[((n : Int) / 16).toNat]'p1).toNat : Int), ((({ data := #[48, 49, 50, 51, 52, 53, 54, 55, 56, 57, 97, 98, 99, 100, 101, 102] } : ByteArray)[((n : Int) % 16).toNat]'p2).toNat : Int)] := by
  rw [hexAt _ p1, hexAt _ p2, show ((n : Int) / 16).toNat = n / 16 by omega, show ((n : Int) % 16).toNat = n % 16 by omega]
theorem buf_fin {B : Nat} {v : Value} {n : Nat} {W0 w : World} (s : ByteArray)
    (h : OwnBuf B 5 v (n + [(34 : Int)].length) (intCells (qHead (s.data.toList.take s.size)) ++ intCells [34]) W0 w) (hn : n = (qHead (s.data.toList.take s.size)).length) (ht : s.data.toList.take s.size = s.data.toList) :
    ∃ g m cap, v = .slice (some ⟨g, 0, none⟩) m cap ∧ Hid (∀ dst, Tryz.prog.underlying dst = some .string → (convert 66 dst (.slice (some ⟨g, 0, none⟩) m cap)).run Tryz.prog w = .ok (.string (strOfNums (qHead s.data.toList ++ [34]))) w) := by
  rw [ht] at h hn
  suffices hx : ∃ g cap, v = .slice (some ⟨g, 0, none⟩) (qHead s.data.toList ++ [34]).length cap ∧ ∀ i, i < (qHead s.data.toList ++ [34]).length → w.cell? ⟨g, 0 + i, none⟩ = some (.int .u8 ((qHead s.data.toList ++ [34]).getD i 0)) by
    obtain ⟨g, cap, h1, h2⟩ := hx
    exact ⟨g, _, cap, h1, run_convert_bytes_arg w 66 5 Tryz.underlying66 Tryz.underlying5 g 0 _ cap (qHead s.data.toList ++ [34]) rfl h2⟩
  refine buf_cells (B := B) (e := 5) (W0 := W0) ?_ (by simp)
  have e1 : intCells (qHead s.data.toList ++ [34]) = intCells (qHead s.data.toList) ++ intCells [34] := by simp [intCells]
  rw [Nat.zero_add, List.nil_append, e1, List.length_append, ← hn]
  exact h
theorem byte_cases (c : UInt8) : 128 ≤ c.toNat ∨ c.toNat = 34 ∨ c.toNat = 92 ∨ c.toNat = 7 ∨ c.toNat = 8 ∨ c.toNat = 9 ∨ c.toNat = 10 ∨ c.toNat = 11 ∨ c.toNat = 12 ∨ c.toNat = 13 ∨
    (¬ (7 ≤ c.toNat ∧ c.toNat ≤ 13) ∧ (c.toNat < 32 ∨ c.toNat = 127) ∧ c.toNat < 128) ∨ (32 ≤ c.toNat ∧ c.toNat < 127 ∧ ¬ c.toNat = 34 ∧ ¬ c.toNat = 92) := by omega
set_option maxHeartbeats 4000000 in
set_option maxRecDepth 100000 in
theorem quotedASCII_any (s : ByteArray) (w : World) (hs : s.size ≤ 1048576) :
    Calls Tryz.prog 13 #[.string s] w fun e w' => (((∃ k, ∃ h : k < s.size, 128 ≤ s[k].toNat) ∧ e = .returned (.tuple #[.string ⟨#[]⟩, .bool false])) ∨ ((∀ k, ∀ h : k < s.size, s[k].toNat < 128) ∧ e = .returned (.tuple #[.string (strOfNums (qHead s.data.toList ++ [34])), .bool true]))) ∧ Below w.heap.size w w' := by
  obtain ⟨i0, hi, hz0, hz1, hz2⟩ : ∃ i, Tryz.prog.info? 5 = some i ∧ i.zero = some (.int .u8 0) ∧ i.size = 1 ∧ i.bytes = 1 := by
    have := byte5
    cases h : Tryz.prog.info? 5 with
    | none => rw [h] at this; cases this
    | some i => rw [h] at this; simp only [Option.map_some, Option.some.injEq, Prod.mk.injEq] at this; exact ⟨i, rfl, this.1, this.2.1, this.2.2⟩
  have HZ : Hid (s.data.toList.length = s.size) := size_list s
  obtain ⟨c, hc⟩ : ∃ c : Nat, c = s.size + 2 := ⟨_, rfl⟩
  have hcI : (s.size : Int) + 2 = (c : Int) := by omega
  have hc2 : c ≤ 140737488355328 := by omega
  have Hc : Hid (c = s.size + 2) := hc
  clear hc
  go_enter Tryz.func13, Tryz.ntmps13
  go_wp2_with (first
    | (at_make; refine wpList_make_own _ rfl _ _ 66 rfl w.heap.size 5 i0 (.int .u8 0) 1 Tryz.underlying66 hi hz0 hz1 _ _ _ c rfl rfl (by first | rfl | assumption) (by rw [hz2]; omega) (by unfold maxLen; omega) (Nat.le_refl _) ?_; intro w1 hown hg; have hb1 : OwnBuf w.heap.size 5 (.slice (some ⟨w.heap.size, 0, none⟩) 0 c) 0 [] w w1 := ⟨World.ownsRowF_of hown, (Below.refl _ _).grown hg (Nat.le_refl _) (by intro k hk; cases hk), hg.size⟩; clear hown hg)
    | (at_builtin; refine wpList_append_bytes rfl _ _ 66 rfl w.heap.size 5 i0 Tryz.underlying66 hi hz0 hz1 hz2 _ _ _ rfl w _ [34] (by exact hb1) rfl (by simp) ?_; intro v2 w2 hb2))
  go_loopw [4, 5] (fun v i wr => ∃ k : Nat, k ≤ s.size ∧ i = .int .i64 k ∧ ∃ n : Nat, n ≤ 4 * k + 1 ∧ OwnBuf w.heap.size 5 v n (intCells (qHead (s.data.toList.take k))) w wr ∧ Hid (n = (qHead (s.data.toList.take k)).length) ∧ Hid (∀ j, ∀ h : j < s.size, j < k → s[j].toNat < 128)) (fun _ i _ => s.size - (intOf i).toNat)
  case atStart => exact ⟨0, Nat.zero_le _, rfl, 1, by omega, hb2, rfl, fun j _ hj => by omega⟩
  case round =>
    obtain ⟨k, hk, rfl, n, hn4, hb, HN, HL⟩ := hrel
    by_cases hlt : k < s.size
    · have hl4 := qHead_len (s.data.toList.take (k + 1))
      rw [List.length_take, HZ.out, Nat.min_eq_left (by omega)] at hl4
      have HL4 : Hid ((qHead (s.data.toList.take (k + 1))).length ≤ 4 * (k + 1) + 1) := hl4
      clear hl4
      rcases byte_cases s[k] with h | h | h | h | h | h | h | h | h | h | h | h
      · have h2 : (128 : Int) ≤ (s[k].toNat : Int) := by omega
        clear h
        go_wp2
        go_ret2
        exact ⟨Or.inl ⟨⟨k, hlt, by omega⟩, rfl⟩, hb.2.1⟩
      · have HE : Hid (qEsc s[k] = [92, 34]) := by unfold Hid qEsc; rw [h]; decide
        have HC : Hid (s[k].toNat < 128) := by unfold Hid; omega
        have h2 : (s[k].toNat : Int) = 34 := by omega
        clear h
        go_wp2_with (at_builtin; refine wpList_append_bytes rfl _ _ 66 rfl w.heap.size 5 i0 Tryz.underlying66 hi hz0 hz1 hz2 _ _ _ rfl w _ [92, 34] (by exact hb) rfl (by simp only [List.length_cons, List.length_nil]; omega) ?_; intro v2 w2 hb2)
        go_roundw
        case rel => exact ⟨k + 1, by omega, by go_num, _, HL4.out, buf_next s k hlt _ HE.out hb2 HN.out, rfl, fun j hj hj2 => by
          by_cases e : j = k
          · subst e; exact HC.out
          · exact HL.out j hj (by omega)⟩
        case measure => simp [intOf]; omega
      · have HE : Hid (qEsc s[k] = [92, 92]) := by unfold Hid qEsc; rw [h]; decide
        have HC : Hid (s[k].toNat < 128) := by unfold Hid; omega
        have h2 : (s[k].toNat : Int) = 92 := by omega
        clear h
        go_wp2_with (at_builtin; refine wpList_append_bytes rfl _ _ 66 rfl w.heap.size 5 i0 Tryz.underlying66 hi hz0 hz1 hz2 _ _ _ rfl w _ [92, 92] (by exact hb) rfl (by simp only [List.length_cons, List.length_nil]; omega) ?_; intro v2 w2 hb2)
        go_roundw
        case rel => exact ⟨k + 1, by omega, by go_num, _, HL4.out, buf_next s k hlt _ HE.out hb2 HN.out, rfl, fun j hj hj2 => by
          by_cases e : j = k
          · subst e; exact HC.out
          · exact HL.out j hj (by omega)⟩
        case measure => simp [intOf]; omega
      · have HE : Hid (qEsc s[k] = [92, 97]) := by unfold Hid qEsc; rw [h]; decide
        have HC : Hid (s[k].toNat < 128) := by unfold Hid; omega
        have h2 : (s[k].toNat : Int) = 7 := by omega
        clear h
        go_wp2_with (at_builtin; refine wpList_append_bytes rfl _ _ 66 rfl w.heap.size 5 i0 Tryz.underlying66 hi hz0 hz1 hz2 _ _ _ rfl w _ [92, 97] (by exact hb) rfl (by simp only [List.length_cons, List.length_nil]; omega) ?_; intro v2 w2 hb2)
        go_roundw
        case rel => exact ⟨k + 1, by omega, by go_num, _, HL4.out, buf_next s k hlt _ HE.out hb2 HN.out, rfl, fun j hj hj2 => by
          by_cases e : j = k
          · subst e; exact HC.out
          · exact HL.out j hj (by omega)⟩
        case measure => simp [intOf]; omega
      · have HE : Hid (qEsc s[k] = [92, 98]) := by unfold Hid qEsc; rw [h]; decide
        have HC : Hid (s[k].toNat < 128) := by unfold Hid; omega
        have h2 : (s[k].toNat : Int) = 8 := by omega
        clear h
        go_wp2_with (at_builtin; refine wpList_append_bytes rfl _ _ 66 rfl w.heap.size 5 i0 Tryz.underlying66 hi hz0 hz1 hz2 _ _ _ rfl w _ [92, 98] (by exact hb) rfl (by simp only [List.length_cons, List.length_nil]; omega) ?_; intro v2 w2 hb2)
        go_roundw
        case rel => exact ⟨k + 1, by omega, by go_num, _, HL4.out, buf_next s k hlt _ HE.out hb2 HN.out, rfl, fun j hj hj2 => by
          by_cases e : j = k
          · subst e; exact HC.out
          · exact HL.out j hj (by omega)⟩
        case measure => simp [intOf]; omega
      · have HE : Hid (qEsc s[k] = [92, 116]) := by unfold Hid qEsc; rw [h]; decide
        have HC : Hid (s[k].toNat < 128) := by unfold Hid; omega
        have h2 : (s[k].toNat : Int) = 9 := by omega
        clear h
        go_wp2_with (at_builtin; refine wpList_append_bytes rfl _ _ 66 rfl w.heap.size 5 i0 Tryz.underlying66 hi hz0 hz1 hz2 _ _ _ rfl w _ [92, 116] (by exact hb) rfl (by simp only [List.length_cons, List.length_nil]; omega) ?_; intro v2 w2 hb2)
        go_roundw
        case rel => exact ⟨k + 1, by omega, by go_num, _, HL4.out, buf_next s k hlt _ HE.out hb2 HN.out, rfl, fun j hj hj2 => by
          by_cases e : j = k
          · subst e; exact HC.out
          · exact HL.out j hj (by omega)⟩
        case measure => simp [intOf]; omega
      · have HE : Hid (qEsc s[k] = [92, 110]) := by unfold Hid qEsc; rw [h]; decide
        have HC : Hid (s[k].toNat < 128) := by unfold Hid; omega
        have h2 : (s[k].toNat : Int) = 10 := by omega
        clear h
        go_wp2_with (at_builtin; refine wpList_append_bytes rfl _ _ 66 rfl w.heap.size 5 i0 Tryz.underlying66 hi hz0 hz1 hz2 _ _ _ rfl w _ [92, 110] (by exact hb) rfl (by simp only [List.length_cons, List.length_nil]; omega) ?_; intro v2 w2 hb2)
        go_roundw
        case rel => exact ⟨k + 1, by omega, by go_num, _, HL4.out, buf_next s k hlt _ HE.out hb2 HN.out, rfl, fun j hj hj2 => by
          by_cases e : j = k
          · subst e; exact HC.out
          · exact HL.out j hj (by omega)⟩
        case measure => simp [intOf]; omega
      · have HE : Hid (qEsc s[k] = [92, 118]) := by unfold Hid qEsc; rw [h]; decide
        have HC : Hid (s[k].toNat < 128) := by unfold Hid; omega
        have h2 : (s[k].toNat : Int) = 11 := by omega
        clear h
        go_wp2_with (at_builtin; refine wpList_append_bytes rfl _ _ 66 rfl w.heap.size 5 i0 Tryz.underlying66 hi hz0 hz1 hz2 _ _ _ rfl w _ [92, 118] (by exact hb) rfl (by simp only [List.length_cons, List.length_nil]; omega) ?_; intro v2 w2 hb2)
        go_roundw
        case rel => exact ⟨k + 1, by omega, by go_num, _, HL4.out, buf_next s k hlt _ HE.out hb2 HN.out, rfl, fun j hj hj2 => by
          by_cases e : j = k
          · subst e; exact HC.out
          · exact HL.out j hj (by omega)⟩
        case measure => simp [intOf]; omega
      · have HE : Hid (qEsc s[k] = [92, 102]) := by unfold Hid qEsc; rw [h]; decide
        have HC : Hid (s[k].toNat < 128) := by unfold Hid; omega
        have h2 : (s[k].toNat : Int) = 12 := by omega
        clear h
        go_wp2_with (at_builtin; refine wpList_append_bytes rfl _ _ 66 rfl w.heap.size 5 i0 Tryz.underlying66 hi hz0 hz1 hz2 _ _ _ rfl w _ [92, 102] (by exact hb) rfl (by simp only [List.length_cons, List.length_nil]; omega) ?_; intro v2 w2 hb2)
        go_roundw
        case rel => exact ⟨k + 1, by omega, by go_num, _, HL4.out, buf_next s k hlt _ HE.out hb2 HN.out, rfl, fun j hj hj2 => by
          by_cases e : j = k
          · subst e; exact HC.out
          · exact HL.out j hj (by omega)⟩
        case measure => simp [intOf]; omega
      · have HE : Hid (qEsc s[k] = [92, 114]) := by unfold Hid qEsc; rw [h]; decide
        have HC : Hid (s[k].toNat < 128) := by unfold Hid; omega
        have h2 : (s[k].toNat : Int) = 13 := by omega
        clear h
        go_wp2_with (at_builtin; refine wpList_append_bytes rfl _ _ 66 rfl w.heap.size 5 i0 Tryz.underlying66 hi hz0 hz1 hz2 _ _ _ rfl w _ [92, 114] (by exact hb) rfl (by simp only [List.length_cons, List.length_nil]; omega) ?_; intro v2 w2 hb2)
        go_roundw
        case rel => exact ⟨k + 1, by omega, by go_num, _, HL4.out, buf_next s k hlt _ HE.out hb2 HN.out, rfl, fun j hj hj2 => by
          by_cases e : j = k
          · subst e; exact HC.out
          · exact HL.out j hj (by omega)⟩
        case measure => simp [intOf]; omega
      · obtain ⟨g1, g2, g3⟩ := h
        have HE : Hid (qEsc s[k] = [92, 120, Lib.hexDigit (s[k].toNat / 16), Lib.hexDigit (s[k].toNat % 16)]) := by
          unfold Hid qEsc
          rw [if_neg (by omega), if_neg (by omega), if_neg (by omega), if_neg (by omega), if_neg (by omega), if_neg (by omega), if_neg (by omega), if_neg (by omega), if_pos g2]
        have HC : Hid (s[k].toNat < 128) := by unfold Hid; omega
        have g3' : (s[k].toNat : Int) < 128 := by omega
        have e34 : ((s[k].toNat : Int) == 34) = false := by rw [beq_eq_false_iff_ne]; omega
        have e92 : ((s[k].toNat : Int) == 92) = false := by rw [beq_eq_false_iff_ne]; omega
        have e7 : ((s[k].toNat : Int) == 7) = false := by rw [beq_eq_false_iff_ne]; omega
        have e8 : ((s[k].toNat : Int) == 8) = false := by rw [beq_eq_false_iff_ne]; omega
        have e9 : ((s[k].toNat : Int) == 9) = false := by rw [beq_eq_false_iff_ne]; omega
        have e10 : ((s[k].toNat : Int) == 10) = false := by rw [beq_eq_false_iff_ne]; omega
        have e11 : ((s[k].toNat : Int) == 11) = false := by rw [beq_eq_false_iff_ne]; omega
        have e12 : ((s[k].toNat : Int) == 12) = false := by rw [beq_eq_false_iff_ne]; omega
        have e13 : ((s[k].toNat : Int) == 13) = false := by rw [beq_eq_false_iff_ne]; omega
        have hand : bits .and .u8 (s[k].toNat : Int) 15 = (s[k].toNat : Int) % 16 := u8_and15 _ (by omega) (by omega)
        have g2' : (s[k].toNat : Int) < 32 ∨ (¬ (s[k].toNat : Int) < 32 ∧ ((s[k].toNat : Int) == 127) = true) := by rw [beq_iff_eq]; omega
        have b1 : 0 ≤ (s[k].toNat : Int) / 16 ∧ (s[k].toNat : Int) / 16 < 16 := by omega
        have b2 : 0 ≤ (s[k].toNat : Int) % 16 ∧ (s[k].toNat : Int) % 16 < 16 := by omega
        have hbd : OwnBuf w.heap.size 5 u4 n (intCells (qHead (s.data.toList.take k))) w wr.drew := ⟨hb.1, hb.2.1.drew, hb.2.2⟩
        clear g1 g2 g3
        rcases g2' with q1 | ⟨q1, q2⟩
        all_goals
          go_wp2_with fail
          go_region_law (refine step_append_bytes rfl (.tmp 90) (.tmp 97) 66 rfl w.heap.size 5 i0 Tryz.underlying66 hi hz0 hz1 hz2 _ _ _ (by first | rfl | simp [Act.eval, Act.put]) w wr.drew [92, 120, _, _] (by exact hbd) (by first | rfl | simp [Act.eval, Act.put]) (by simp only [List.length_cons, List.length_nil]; omega) _ rfl ?_; intro v2 w2 hb2)
          all_goals
            go_wp2
            go_roundw
            case rel => exact ⟨k + 1, by omega, by go_num, _, HL4.out, buf_next s k hlt _ (HE.out.trans (hex_list _ HC.out _ _)) hb2 HN.out, rfl, fun j hj hj2 => by
              by_cases e : j = k
              · subst e; exact HC.out
              · exact HL.out j hj (by omega)⟩
            case measure => simp [intOf]; omega
      · obtain ⟨g1, g2, g3, g4⟩ := h
        have HE : Hid (qEsc s[k] = [(s[k].toNat : Int)]) := by
          unfold Hid qEsc
          rw [if_neg (by omega), if_neg (by omega), if_neg (by omega), if_neg (by omega), if_neg (by omega), if_neg (by omega), if_neg (by omega), if_neg (by omega), if_neg (by omega)]
        have HC : Hid (s[k].toNat < 128) := by unfold Hid; omega
        have g1' : (32 : Int) ≤ (s[k].toNat : Int) := by omega
        have g2' : (s[k].toNat : Int) < 127 := by omega
        have g3' : ((s[k].toNat : Int) == 34) = false := by rw [beq_eq_false_iff_ne]; omega
        have g4' : ((s[k].toNat : Int) == 92) = false := by rw [beq_eq_false_iff_ne]; omega
        have g5' : ((s[k].toNat : Int) == 127) = false := by rw [beq_eq_false_iff_ne]; omega
        clear g1 g2 g3 g4
        go_wp2_with (at_builtin; refine wpList_append_bytes rfl _ _ 66 rfl w.heap.size 5 i0 Tryz.underlying66 hi hz0 hz1 hz2 _ _ _ rfl w _ [(s[k].toNat : Int)] (by exact hb) rfl (by simp only [List.length_cons, List.length_nil]; omega) ?_; intro v2 w2 hb2)
        go_roundw
        case rel => exact ⟨k + 1, by omega, by go_num, _, HL4.out, buf_next s k hlt _ HE.out hb2 HN.out, rfl, fun j hj hj2 => by
          by_cases e : j = k
          · subst e; exact HC.out
          · exact HL.out j hj (by omega)⟩
        case measure => simp [intOf]; omega
    · have hkk : k = s.size := by omega
      subst hkk
      have HT : Hid (s.data.toList.take s.size = s.data.toList) := List.take_of_length_le (by rw [HZ.out]; omega)
      have hn5 : n + 1 ≤ 140737488355328 := by omega
      go_wp2_with (at_builtin; refine wpList_append_bytes rfl _ _ 66 rfl w.heap.size 5 i0 Tryz.underlying66 hi hz0 hz1 hz2 _ _ _ rfl w _ [34] (by exact hb) rfl (by simp only [List.length_cons, List.length_nil]; omega) ?_; intro v2 w2 hb2; obtain ⟨g, m, cap, hv2, hcv0⟩ := buf_fin s hb2 HN.out HT.out; have hcv := hcv0.out 9 Tryz.underlying9; rw [hv2])
      go_ret2
      exact ⟨Or.inr ⟨fun j hj => HL.out j hj hj, rfl⟩, hb2.2.1⟩
end Go.Proofs.Qxb6613210aGreatFmt
