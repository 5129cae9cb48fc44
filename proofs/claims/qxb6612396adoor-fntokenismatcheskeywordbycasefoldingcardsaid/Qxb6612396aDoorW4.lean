import Derived.Test.Qxb6612396aDoorPlain3
import Derived.Test.Qxb6612396aDoorW3
import Derived.Laws.RangeAny
import Derived.ScopeJumps
import Derived.WalkMore
namespace Go.Proofs.Qxb6612396aDoor
open Go.RowKit
/-- The string that a value holds. -/
def strOf : Value → ByteArray
  | .string s => s
  | _ => ⟨#[]⟩
theorem Tab.iter {w : World} (h : Tab w) (S : ByteArray) (p : Nat) : Tab (w.iter S p) where
  fold := fun r hr => by
    have hc := h.fold r hr
    have hb := (Below.refl w.heap.size w).alloc (Nat.le_refl _) (.stringIter S p)
    rw [show (w.iter S p).cell? ⟨0, r, none⟩ = w.cell? ⟨0, r, none⟩ from hb.cell (World.block_lt_of_cell? _ _ hc)]; exact hc
  orb := by
    obtain ⟨blk, off, cap, h1, h2⟩ := h.orb
    have hb := (Below.refl w.heap.size w).alloc (Nat.le_refl _) (.stringIter S p)
    refine ⟨blk, off, cap, ?_, fun i hi => ⟨?_, ?_⟩⟩
    · rw [show (w.iter S p).cell? ⟨1, 0, none⟩ = w.cell? ⟨1, 0, none⟩ from hb.cell (World.block_lt_of_cell? _ _ h1)]; exact h1
    · have hc := (h2 i hi).1
      rw [show (w.iter S p).cell? ⟨blk, off + 2 * i, none⟩ = w.cell? ⟨blk, off + 2 * i, none⟩ from hb.cell (World.block_lt_of_cell? _ _ hc)]; exact hc
    · have hc := (h2 i hi).2
      rw [show (w.iter S p).cell? ⟨blk, off + (2 * i + 1), none⟩ = w.cell? ⟨blk, off + (2 * i + 1), none⟩ from hb.cell (World.block_lt_of_cell? _ _ hc)]; exact hc
theorem fold_at (c d : Nat) (hc : c < 128) (hd : foldA c = d) (w : World) (hT : Tab w) : Calls Tryd.prog 16 #[.int .i32 c] w fun e w' => e = .returned (.int .i32 d) ∧ w' = w := by
  rw [← hd]; exact fold_ascii c hc w hT
theorem drop_list (s : ByteArray) (n : Nat) : (s.extract n s.size).data.toList = s.data.toList.drop n := by
  rw [ByteArray.data_extract, Array.toList_extract, List.extract_eq_take_drop]
  rw [List.take_of_length_le]
  rw [List.length_drop, Array.length_toList]; exact Nat.le_refl _
set_option maxRecDepth 100000 in
set_option maxHeartbeats 4000000 in
theorem equal_any (s t : ByteArray) (w : World) (hT : Tab w) (hs : s.size ≤ 1048576) (ht : t.size ≤ 1048576) (hA : Asc t) :
    Calls Tryd.prog 14 #[.string s, .string t] w fun e w' => e = .returned (.bool (folds s.data.toList t.data.toList)) ∧ Below w.heap.size w w' := by
  have HT : Hid (Tab w) := hT
  have HA : Hid (Asc t) := hA
  obtain ⟨R, hR⟩ : ∃ R, folds s.data.toList t.data.toList = R := ⟨_, rfl⟩
  have HR : Hid (folds s.data.toList t.data.toList = R) := hR
  rw [hR]
  clear hR hT hA
  go_enter Tryd.func14, Tryd.ntmps14
  go_wp2_with fail
  refine wp_scope_jumps 0 (fun a' w' => w' = w ∧ ∃ (i : Nat) (u4 u6 u7 u8 u14 u15 u16 u17 u18 u19 u20 u21 u22 u23 u24 u25 u26 u27 u28 u29 u30 u31 u32 u33 u34 u35 u36 u37 u38 u39 u40 u41 u42 u43 u44 u45 u46 u47 u48 u49 u50 u51 u52 u53 u54 : Value), a' = { tmps := #[.string s, .string t, undef, undef, u4, .int .i64 i, u6, u7, u8, undef, undef, undef, undef, undef, u14, u15, u16, u17, u18, u19, u20, u21, u22, u23, u24, u25, u26, u27, u28, u29, u30, u31, u32, u33, u34, u35, u36, u37, u38, u39, u40, u41, u42, u43, u44, u45, u46, u47, u48, u49, u50, u51, u52, u53, u54, undef, undef, undef, undef, undef, undef, undef, undef, undef, undef, undef, undef, undef, undef, undef, undef, undef, undef, undef, undef, undef, undef, undef, undef, undef, undef, undef, undef, undef, undef, undef, undef, undef, undef, undef, undef, undef, undef, undef, undef, undef, undef, undef, undef, undef, undef, undef, undef, undef, undef, undef, undef, undef, undef, undef, undef, undef, undef, undef, undef, undef, undef, undef, undef, undef, undef, undef, undef], defers := [] } ∧ i < s.size ∧ i < t.size ∧ Hid (folds (s.data.toList.drop i) (t.data.toList.drop i) = R)) (fun _ _ => 0) (by rfl) ?_ ?_
  · obtain ⟨M, hM⟩ : ∃ M : Nat, min (s.size : Int) (t.size : Int) = (M : Int) := ⟨min s.size t.size, by omega⟩
    have hMs : M ≤ s.size := by omega
    have hMt : M ≤ t.size := by omega
    have hMe : M = s.size ∨ M = t.size := by omega
    go_wp2_with fail
    clear hM
    go_loop [5] (fun b => ∃ k : Nat, k ≤ M ∧ b = .int .i64 k ∧ Hid (folds (s.data.toList.drop k) (t.data.toList.drop k) = R)) (fun b => M - (intOf b).toNat)
    case atStart => exact ⟨0, by omega, by go_num, HR⟩
    case round =>
      obtain ⟨k, hk, rfl, hr⟩ := hrel
      by_cases hlt : k < M
      · have hiM : (k : Int) < (M : Int) := by omega
        have hisz : (k : Int) < (s.size : Int) := by omega
        have hitz : (k : Int) < (t.size : Int) := by omega
        have hy128 := HA.out k (by omega)
        obtain ⟨x, hx⟩ : ∃ x : UInt8, s[k]'(by omega) = x := ⟨_, rfl⟩
        obtain ⟨y, hy⟩ : ∃ y : UInt8, t[k]'(by omega) = y := ⟨_, rfl⟩
        rw [hy] at hy128
        have Hd : Hid (s.data.toList.drop k = x :: s.data.toList.drop (k + 1) ∧ t.data.toList.drop k = y :: t.data.toList.drop (k + 1)) := ⟨by rw [← hx]; exact drop_cons s k (by omega), by rw [← hy]; exact drop_cons t k (by omega)⟩
        have hxl := x.toNat_lt
        have hor : bits .or .u8 (x.toNat : Int) (y.toNat : Int) = ((x.toNat ||| y.toNat : Nat) : Int) := u8_or_nat _ _ (by omega) (by omega)
        by_cases hx128 : x.toNat < 128
        · have hor128 : ¬ ((128 : Int) ≤ ((x.toNat ||| y.toNat : Nat) : Int)) := by have := Nat.or_lt_two_pow (n := 7) hx128 hy128; omega
          cases e1 : ((y.toNat : Int) == (x.toNat : Int)) with
          | true =>
            have hr2 : Hid (folds (s.data.toList.drop (k + 1)) (t.data.toList.drop (k + 1)) = R) := by
              unfold Hid
              rw [← hr.out, Hd.out.1, Hd.out.2, folds_some _ _ _ 1 (by rw [eats_asc _ _ _ hx128, if_pos (by rw [beq_iff_eq] at e1; rw [show x.toNat = y.toNat by omega])])]; rfl
            go_wp2
            go_round
            case rel => exact ⟨k + 1, by omega, by go_num, hr2⟩
            case measure => simp [intOf]; omega
          | false =>
            have hne : x.toNat ≠ y.toNat := by rw [beq_eq_false_iff_ne] at e1; omega
            by_cases hyx : (y.toNat : Int) < (x.toNat : Int)
            · skip
              by_cases A : (65 : Int) ≤ (y.toNat : Int)
              · by_cases B : (y.toNat : Int) ≤ 90
                · cases C : ((x.toNat : Int) == (y.toNat : Int) + 32) with
                  | true =>
                    have hr2 : Hid (folds (s.data.toList.drop (k + 1)) (t.data.toList.drop (k + 1)) = R) := by
                      unfold Hid
                      rw [← hr.out, Hd.out.1, Hd.out.2, folds_some _ _ _ 1 (by rw [eats_asc _ _ _ hx128, if_pos (by rw [beq_iff_eq] at C; unfold low; (repeat' split) <;> omega)])]; rfl
                    go_wp2
                    go_round
                    case rel => exact ⟨k + 1, by omega, by go_num, hr2⟩
                    case measure => simp [intOf]; omega
                  | false =>
                    have hR : Hid (false = R) := by
                      unfold Hid
                      rw [← hr.out, Hd.out.1, Hd.out.2, folds_none _ _ _ (by rw [eats_asc _ _ _ hx128, if_neg (by rw [beq_eq_false_iff_ne] at C; unfold low; (repeat' split) <;> omega)])]
                    go_wp2
                    simp only [Exit.jump]
                    go_ret
                    exact ⟨by rw [← hR.out]; rfl, Below.refl _ _⟩
                · skip
                  have hR : Hid (false = R) := by
                    unfold Hid
                    rw [← hr.out, Hd.out.1, Hd.out.2, folds_none _ _ _ (by rw [eats_asc _ _ _ hx128, if_neg (by unfold low; (repeat' split) <;> omega)])]
                  go_wp2
                  simp only [Exit.jump]
                  go_ret
                  exact ⟨by rw [← hR.out]; rfl, Below.refl _ _⟩
              · skip
                have hR : Hid (false = R) := by
                  unfold Hid
                  rw [← hr.out, Hd.out.1, Hd.out.2, folds_none _ _ _ (by rw [eats_asc _ _ _ hx128, if_neg (by unfold low; (repeat' split) <;> omega)])]
                go_wp2
                simp only [Exit.jump]
                go_ret
                exact ⟨by rw [← hR.out]; rfl, Below.refl _ _⟩
            · skip
              by_cases A : (65 : Int) ≤ (x.toNat : Int)
              · by_cases B : (x.toNat : Int) ≤ 90
                · cases C : ((y.toNat : Int) == (x.toNat : Int) + 32) with
                  | true =>
                    have hr2 : Hid (folds (s.data.toList.drop (k + 1)) (t.data.toList.drop (k + 1)) = R) := by
                      unfold Hid
                      rw [← hr.out, Hd.out.1, Hd.out.2, folds_some _ _ _ 1 (by rw [eats_asc _ _ _ hx128, if_pos (by rw [beq_iff_eq] at C; unfold low; (repeat' split) <;> omega)])]; rfl
                    go_wp2
                    go_round
                    case rel => exact ⟨k + 1, by omega, by go_num, hr2⟩
                    case measure => simp [intOf]; omega
                  | false =>
                    have hR : Hid (false = R) := by
                      unfold Hid
                      rw [← hr.out, Hd.out.1, Hd.out.2, folds_none _ _ _ (by rw [eats_asc _ _ _ hx128, if_neg (by rw [beq_eq_false_iff_ne] at C; unfold low; (repeat' split) <;> omega)])]
                    go_wp2
                    simp only [Exit.jump]
                    go_ret
                    exact ⟨by rw [← hR.out]; rfl, Below.refl _ _⟩
                · skip
                  have hR : Hid (false = R) := by
                    unfold Hid
                    rw [← hr.out, Hd.out.1, Hd.out.2, folds_none _ _ _ (by rw [eats_asc _ _ _ hx128, if_neg (by unfold low; (repeat' split) <;> omega)])]
                  go_wp2
                  simp only [Exit.jump]
                  go_ret
                  exact ⟨by rw [← hR.out]; rfl, Below.refl _ _⟩
              · skip
                have hR : Hid (false = R) := by
                  unfold Hid
                  rw [← hr.out, Hd.out.1, Hd.out.2, folds_none _ _ _ (by rw [eats_asc _ _ _ hx128, if_neg (by unfold low; (repeat' split) <;> omega)])]
                go_wp2
                simp only [Exit.jump]
                go_ret
                exact ⟨by rw [← hR.out]; rfl, Below.refl _ _⟩
        · have hor128 : ((128 : Int) ≤ ((x.toNat ||| y.toNat : Nat) : Int)) := by have := @Nat.left_le_or x.toNat y.toNat; omega
          go_wp2
          go_step3
          exact ⟨rfl, rfl, k, _, _, _, _, _, _, _, _, _, _, _, _, _, _, _, _, _, _, _, _, _, _, _, _, _, _, _, _, _, _, _, _, _, _, _, _, _, _, _, _, _, _, _, _, _, rfl, by omega, by omega, hr⟩
      · have hiM : ¬ (k : Int) < (M : Int) := by omega
        have hR : Hid ((((s.size : Int) == (t.size : Int)) : Bool) = R) := by
          unfold Hid
          rw [← hr.out]
          by_cases e : k < t.size
          · rw [drop_cons t k e, drop_nil s k (by omega), folds_none _ _ _ rfl, beq_eq_false_iff_ne.2 (by omega)]
          · rw [drop_nil t k (by omega), folds_end]
            by_cases e2 : k < s.size
            · rw [drop_cons s k e2, beq_eq_false_iff_ne.2 (by omega)]; rfl
            · rw [drop_nil s k (by omega), beq_iff_eq.2 (by omega)]; rfl
        go_wp2
        simp only [Exit.jump]
        go_ret
        exact ⟨by rw [← hR.out]; rfl, Below.refl _ _⟩
  · rintro a' w' ⟨rfl, i, u4, u6, u7, u8, u14, u15, u16, u17, u18, u19, u20, u21, u22, u23, u24, u25, u26, u27, u28, u29, u30, u31, u32, u33, u34, u35, u36, u37, u38, u39, u40, u41, u42, u43, u44, u45, u46, u47, u48, u49, u50, u51, u52, u53, u54, rfl, hi1, hi2, hr⟩
    obtain ⟨S, hS⟩ : ∃ S, s.extract i s.size = S := ⟨_, rfl⟩
    obtain ⟨T0, hT0⟩ : ∃ T0, t.extract i t.size = T0 := ⟨_, rfl⟩
    have hSz : S.size ≤ 1048576 := by rw [← hS, ByteArray.size_extract]; omega
    have hTz : T0.size ≤ 1048576 := by rw [← hT0, ByteArray.size_extract]; omega
    have HF : Hid (folds S.data.toList T0.data.toList = R) := by
      unfold Hid
      rw [← hr.out, ← hS, ← hT0, drop_list, drop_list]
    have HA0 : Hid (Asc T0) := by
      intro j hj
      have hj2 : j < t.size - i := by rw [← hT0, ByteArray.size_extract] at hj; omega
      have : T0[j] = t[i + j]'(by omega) := by subst hT0; exact ByteArray.getElem_extract ..
      rw [this]; exact HA.out _ _
    clear hr HR HA
    go_wp2_with fail
    clear hS hT0
    go_loopw [1] (fun v wd => ∃ (pos : Nat) (tb : ByteArray), pos ≤ S.size ∧ v = .string tb ∧ tb.size ≤ 1048576 ∧ wd = w'.iter S pos ∧ Hid (Asc tb) ∧ Hid (folds (S.data.toList.drop pos) tb.data.toList = R)) (fun v _ => (strOf v).size)
    case atStart => exact ⟨0, T0, by omega, rfl, hTz, rfl, HA0, HF⟩
    case round =>
      obtain ⟨pos, tb, hp0, rfl, htb, rfl, hAt, hf⟩ := hrel
      by_cases hp : pos < S.size
      · obtain ⟨r, n, hd⟩ : ∃ r n, Utf8.decode S pos = (r, n) := ⟨_, _, rfl⟩
        have hnx : ∀ ty, (Instr.next (.pointer (some ⟨w'.heap.size, 0, none⟩)) true ty).run Tryd.prog (w'.iter S pos) = .ok (.tuple #[.bool true, .int .i64 pos, .int .i32 r]) (w'.iter S (pos + n)) := fun ty => by rw [run_next_any w' S pos ty hp, hd]
        by_cases h0 : 0 < tb.size
        · obtain ⟨x, hx⟩ : ∃ x : UInt8, S[pos]'hp = x := ⟨_, rfl⟩
          obtain ⟨c, hc⟩ : ∃ c : UInt8, tb[0]'h0 = c := ⟨_, rfl⟩
          have hcons := drop_cons S pos hp
          rw [hx] at hcons
          have hc128 := hAt.out 0 h0
          rw [hc] at hc128
          have hk : tb.data.toList = c :: (tb.extract 1 tb.size).data.toList := by
            have := drop_cons tb 0 h0
            rw [List.drop_zero, hc] at this
            rw [this, drop_list]
          have HDc : Hid (∀ w, Calls Tryd.prog 15 #[.string tb] w fun e w' => e = .returned (.tuple #[.int .i32 c.toNat, .int .i64 1]) ∧ w' = w) := fun w => Tryd.utf8_DecodeRuneInString_ascii tb c w (by rw [hk]; rfl) hc128
          have hz : (tb.extract 1 tb.size).size = tb.size - 1 := by rw [ByteArray.size_extract]; omega
          have h0' : ((tb.size : Int) == 0) = false := by rw [beq_eq_false_iff_ne]; omega
          have hA1 : Hid (Asc (tb.extract 1 tb.size)) := by
            intro j hj
            have : (tb.extract 1 tb.size)[j] = tb[1 + j]'(by omega) := ByteArray.getElem_extract ..
            rw [this]; exact hAt.out _ _
          by_cases hb : x.toNat < 128
          · have hd2 := decode_ascii S pos hp (by rw [hx]; exact hb)
            rw [hd, hx] at hd2
            obtain ⟨rfl, rfl⟩ := Prod.mk.inj hd2
            clear hd2 hd
            have Hk : Hid (S.data.toList.drop pos = x :: S.data.toList.drop (pos + 1) ∧ tb.data.toList = c :: (tb.extract 1 tb.size).data.toList) := ⟨hcons, hk⟩
            cases e1 : ((c.toNat : Int) == (x.toNat : Int)) with
            | true =>
              have hr2 : Hid (folds (S.data.toList.drop (pos + 1)) (tb.extract 1 tb.size).data.toList = R) := by
                unfold Hid
                rw [← hf.out, hcons, hk, folds_some _ _ _ 1 (by rw [eats_asc _ _ _ hb, if_pos (by rw [beq_iff_eq] at e1; rw [show x.toNat = c.toNat by omega])]), ← hcons, List.drop_drop]
              go_wp2_with (go_at_call 15; refine (HDc.out _).mono ?_; rintro e w2 ⟨rfl, hw⟩; replace hw := hw.symm; subst hw)
              go_roundw
              case rel => exact ⟨pos + 1, tb.extract 1 tb.size, by omega, rfl, by omega, rfl, hA1, hr2⟩
              case measure => simp only [strOf]; omega
            | false =>
              have hne : x.toNat ≠ c.toNat := by rw [beq_eq_false_iff_ne] at e1; omega
              by_cases hyx : (c.toNat : Int) < (x.toNat : Int)
              · skip
                by_cases A : (65 : Int) ≤ (c.toNat : Int)
                · by_cases B : (c.toNat : Int) ≤ 90
                  · cases C : ((x.toNat : Int) == (c.toNat : Int) + 32) with
                    | true =>
                      have hr2 : Hid (folds (S.data.toList.drop (pos + 1)) (tb.extract 1 tb.size).data.toList = R) := by
                        unfold Hid
                        rw [← hf.out, hcons, hk, folds_some _ _ _ 1 (by rw [eats_asc _ _ _ hb, if_pos (by rw [beq_iff_eq] at C; unfold low; (repeat' split) <;> omega)]), ← hcons, List.drop_drop]
                      go_wp2_with (go_at_call 15; refine (HDc.out _).mono ?_; rintro e w2 ⟨rfl, hw⟩; replace hw := hw.symm; subst hw)
                      go_roundw
                      case rel => exact ⟨pos + 1, tb.extract 1 tb.size, by omega, rfl, by omega, rfl, hA1, hr2⟩
                      case measure => simp only [strOf]; omega
                    | false =>
                      have hR : Hid (false = R) := by
                        unfold Hid
                        rw [← hf.out, hcons, hk, folds_none _ _ _ (by rw [eats_asc _ _ _ hb, if_neg (by rw [beq_eq_false_iff_ne] at C; unfold low; (repeat' split) <;> omega)])]
                      go_wp2_with (go_at_call 15; refine (HDc.out _).mono ?_; rintro e w2 ⟨rfl, hw⟩; replace hw := hw.symm; subst hw)
                      simp only [Exit.jump]
                      go_ret
                      exact ⟨by rw [← hR.out]; rfl, (Below.refl _ _).alloc (Nat.le_refl _) _⟩
                  · skip
                    have hR : Hid (false = R) := by
                      unfold Hid
                      rw [← hf.out, hcons, hk, folds_none _ _ _ (by rw [eats_asc _ _ _ hb, if_neg (by unfold low; (repeat' split) <;> omega)])]
                    go_wp2_with (go_at_call 15; refine (HDc.out _).mono ?_; rintro e w2 ⟨rfl, hw⟩; replace hw := hw.symm; subst hw)
                    simp only [Exit.jump]
                    go_ret
                    exact ⟨by rw [← hR.out]; rfl, (Below.refl _ _).alloc (Nat.le_refl _) _⟩
                · skip
                  have hR : Hid (false = R) := by
                    unfold Hid
                    rw [← hf.out, hcons, hk, folds_none _ _ _ (by rw [eats_asc _ _ _ hb, if_neg (by unfold low; (repeat' split) <;> omega)])]
                  go_wp2_with (go_at_call 15; refine (HDc.out _).mono ?_; rintro e w2 ⟨rfl, hw⟩; replace hw := hw.symm; subst hw)
                  simp only [Exit.jump]
                  go_ret
                  exact ⟨by rw [← hR.out]; rfl, (Below.refl _ _).alloc (Nat.le_refl _) _⟩
              · skip
                by_cases A : (65 : Int) ≤ (x.toNat : Int)
                · by_cases B : (x.toNat : Int) ≤ 90
                  · cases C : ((c.toNat : Int) == (x.toNat : Int) + 32) with
                    | true =>
                      have hr2 : Hid (folds (S.data.toList.drop (pos + 1)) (tb.extract 1 tb.size).data.toList = R) := by
                        unfold Hid
                        rw [← hf.out, hcons, hk, folds_some _ _ _ 1 (by rw [eats_asc _ _ _ hb, if_pos (by rw [beq_iff_eq] at C; unfold low; (repeat' split) <;> omega)]), ← hcons, List.drop_drop]
                      go_wp2_with (go_at_call 15; refine (HDc.out _).mono ?_; rintro e w2 ⟨rfl, hw⟩; replace hw := hw.symm; subst hw)
                      go_roundw
                      case rel => exact ⟨pos + 1, tb.extract 1 tb.size, by omega, rfl, by omega, rfl, hA1, hr2⟩
                      case measure => simp only [strOf]; omega
                    | false =>
                      have hR : Hid (false = R) := by
                        unfold Hid
                        rw [← hf.out, hcons, hk, folds_none _ _ _ (by rw [eats_asc _ _ _ hb, if_neg (by rw [beq_eq_false_iff_ne] at C; unfold low; (repeat' split) <;> omega)])]
                      go_wp2_with (go_at_call 15; refine (HDc.out _).mono ?_; rintro e w2 ⟨rfl, hw⟩; replace hw := hw.symm; subst hw)
                      simp only [Exit.jump]
                      go_ret
                      exact ⟨by rw [← hR.out]; rfl, (Below.refl _ _).alloc (Nat.le_refl _) _⟩
                  · skip
                    have hR : Hid (false = R) := by
                      unfold Hid
                      rw [← hf.out, hcons, hk, folds_none _ _ _ (by rw [eats_asc _ _ _ hb, if_neg (by unfold low; (repeat' split) <;> omega)])]
                    go_wp2_with (go_at_call 15; refine (HDc.out _).mono ?_; rintro e w2 ⟨rfl, hw⟩; replace hw := hw.symm; subst hw)
                    simp only [Exit.jump]
                    go_ret
                    exact ⟨by rw [← hR.out]; rfl, (Below.refl _ _).alloc (Nat.le_refl _) _⟩
                · skip
                  have hR : Hid (false = R) := by
                    unfold Hid
                    rw [← hf.out, hcons, hk, folds_none _ _ _ (by rw [eats_asc _ _ _ hb, if_neg (by unfold low; (repeat' split) <;> omega)])]
                  go_wp2_with (go_at_call 15; refine (HDc.out _).mono ?_; rintro e w2 ⟨rfl, hw⟩; replace hw := hw.symm; subst hw)
                  simp only [Exit.jump]
                  go_ret
                  exact ⟨by rw [← hR.out]; rfl, (Below.refl _ _).alloc (Nat.le_refl _) _⟩
          · have hw8 := dec_wide S pos hp (by rw [hx]; exact hb) c
            rw [hd, hcons] at hw8
            obtain ⟨r1, r2, n1, n2, he⟩ := hw8
            dsimp only at r1 r2 n1 n2 he
            have e1 : ((c.toNat : Int) == (r : Int)) = false := by rw [beq_eq_false_iff_ne]; omega
            have hltr : (c.toNat : Int) < (r : Int) := by omega
            have hr128 : ¬ (r : Int) < 128 := by omega
            have HTi : Hid (Tab (w'.iter S (pos + n))) := HT.out.iter S (pos + n)
            have he' : Hid (eats (x :: S.data.toList.drop (pos + 1)) c = if meets c.toNat r = true then some n else none) := by
              unfold Hid
              rw [he]; unfold meets; simp only [decide_eq_true_eq]
            clear he hd
            go_upto_block 4 with (first | (go_at_call 15; refine (HDc.out _).mono ?_; rintro e w2 ⟨rfl, hw⟩; replace hw := hw.symm; subst hw) | (go_at_call 16; refine (fold_ascii c.toNat hc128 _ HTi.out).mono ?_; rintro e w2 ⟨rfl, hw⟩; replace hw := hw.symm; subst hw))
            go_cut [13] from 68 to 119 (fun v wd => ∃ q : Int, v = .int .i32 q ∧ (q == (r : Int)) = meets c.toNat r ∧ wd = w'.iter S (pos + n))
            case first =>
              rcases fold_kinds c.toNat hc128 with ⟨k1, k2, k3⟩ | ⟨c', k1, k2, k3, k4, k5, k6⟩ | hkc | hkc | hkc | hkc
              · have hmt : meets c.toNat r = false := by unfold meets; exact decide_eq_false (by omega)
                rw [k1]
                go_wp2_with fail
                refine wp_loop_rounds 6 ?_
                rw [rounds_succ]
                go_wp2_with fail
                go_meet
                case rel => exact ⟨(c.toNat : Int), rfl, by rw [hmt]; first | rfl | assumption | (rw [beq_eq_false_iff_ne]; omega) | (rw [beq_iff_eq]; omega), rfl⟩
              · have hmt : meets c.toNat r = false := by unfold meets; exact decide_eq_false (by omega)
                rw [k1]
                have k7 : ((c' : Int) != (c.toNat : Int)) = true := by rw [bne_iff_ne]; omega
                have k8 : (c' : Int) < (r : Int) := by omega
                go_wp2_with fail
                refine wp_loop_rounds 6 ?_
                rw [rounds_succ]
                go_wp2_with fail
                refine (fold_at c' c.toNat k3 k4 _ HTi.out).mono ?_
                rintro e w2 ⟨rfl, hw⟩
                replace hw := hw.symm
                subst hw
                go_wp2_with fail
                rw [rounds_succ]
                go_wp2_with fail
                go_meet
                case rel => exact ⟨(c.toNat : Int), rfl, by rw [hmt]; first | rfl | assumption | (rw [beq_eq_false_iff_ne]; omega) | (rw [beq_iff_eq]; omega), rfl⟩
              · skip
                have HKC : Hid (c.toNat = 75) := hkc
                have hf0 : foldA c.toNat = 107 := by rw [hkc]; decide
                rw [hf0]
                have f107 : ((107 : Int) != (c.toNat : Int)) = true := by rw [bne_iff_ne]; omega
                have f8490 : ((8490 : Int) != (c.toNat : Int)) = true := by rw [bne_iff_ne]; omega
                have f75 : ((75 : Int) != (c.toNat : Int)) = false := by rw [bne_eq_false_iff_eq]; omega
                clear hf0 hkc
                have hsm : (107 : Int) < (r : Int) := by omega
                by_cases hlr : (8490 : Int) < (r : Int)
                · have hmt : meets c.toNat r = false := by rw [HKC.out]; unfold meets; exact decide_eq_false (by rw [show low 75 = 107 by decide]; omega)
                  go_wp2_with fail
                  refine wp_loop_rounds 6 ?_
                  rw [rounds_succ]
                  go_wp2_with fail
                  refine (fold_at 107 8490 (by decide) (by decide) _ HTi.out).mono ?_
                  rintro e w2 ⟨rfl, hw⟩
                  replace hw := hw.symm
                  subst hw
                  go_wp2_with fail
                  rw [rounds_succ]
                  go_wp2_with fail
                  refine (fold_8490 _ HTi.out).mono ?_
                  rintro e w2 ⟨rfl, hw⟩
                  replace hw := hw.symm
                  subst hw
                  go_wp2_with fail
                  rw [rounds_succ]
                  go_wp2_with fail
                  go_meet
                  case rel => exact ⟨75, rfl, by rw [hmt]; first | rfl | assumption | (rw [beq_eq_false_iff_ne]; omega) | (rw [beq_iff_eq]; omega), rfl⟩
                · by_cases hre : r = 8490
                  · have hmt : meets c.toNat r = true := by rw [HKC.out]; unfold meets; exact decide_eq_true (by rw [show low 75 = 107 by decide]; omega)
                    have hqq : (((8490 : Int) == (r : Int)) : Bool) = true := by rw [beq_iff_eq]; omega
                    clear hre
                    go_wp2_with fail
                    refine wp_loop_rounds 6 ?_
                    rw [rounds_succ]
                    go_wp2_with fail
                    refine (fold_at 107 8490 (by decide) (by decide) _ HTi.out).mono ?_
                    rintro e w2 ⟨rfl, hw⟩
                    replace hw := hw.symm
                    subst hw
                    go_wp2_with fail
                    rw [rounds_succ]
                    go_wp2_with fail
                    go_meet
                    case rel => exact ⟨8490, rfl, by rw [hmt]; first | rfl | assumption | (rw [beq_eq_false_iff_ne]; omega) | (rw [beq_iff_eq]; omega), rfl⟩
                  · have hmt : meets c.toNat r = false := by rw [HKC.out]; unfold meets; exact decide_eq_false (by rw [show low 75 = 107 by decide]; omega)
                    go_wp2_with fail
                    refine wp_loop_rounds 6 ?_
                    rw [rounds_succ]
                    go_wp2_with fail
                    refine (fold_at 107 8490 (by decide) (by decide) _ HTi.out).mono ?_
                    rintro e w2 ⟨rfl, hw⟩
                    replace hw := hw.symm
                    subst hw
                    go_wp2_with fail
                    rw [rounds_succ]
                    go_wp2_with fail
                    go_meet
                    case rel => exact ⟨8490, rfl, by rw [hmt]; first | rfl | assumption | (rw [beq_eq_false_iff_ne]; omega) | (rw [beq_iff_eq]; omega), rfl⟩
              · skip
                have HKC : Hid (c.toNat = 107) := hkc
                have hf0 : foldA c.toNat = 8490 := by rw [hkc]; decide
                rw [hf0]
                have f8490 : ((8490 : Int) != (c.toNat : Int)) = true := by rw [bne_iff_ne]; omega
                have f75 : ((75 : Int) != (c.toNat : Int)) = true := by rw [bne_iff_ne]; omega
                have f107 : ((107 : Int) != (c.toNat : Int)) = false := by rw [bne_eq_false_iff_eq]; omega
                clear hf0 hkc
                have hsm : (107 : Int) < (r : Int) := by omega
                by_cases hlr : (8490 : Int) < (r : Int)
                · have hmt : meets c.toNat r = false := by rw [HKC.out]; unfold meets; exact decide_eq_false (by rw [show low 107 = 107 by decide]; omega)
                  go_wp2_with fail
                  refine wp_loop_rounds 6 ?_
                  rw [rounds_succ]
                  go_wp2_with fail
                  refine (fold_8490 _ HTi.out).mono ?_
                  rintro e w2 ⟨rfl, hw⟩
                  replace hw := hw.symm
                  subst hw
                  go_wp2_with fail
                  rw [rounds_succ]
                  go_wp2_with fail
                  refine (fold_at 75 107 (by decide) (by decide) _ HTi.out).mono ?_
                  rintro e w2 ⟨rfl, hw⟩
                  replace hw := hw.symm
                  subst hw
                  go_wp2_with fail
                  rw [rounds_succ]
                  go_wp2_with fail
                  go_meet
                  case rel => exact ⟨107, rfl, by rw [hmt]; first | rfl | assumption | (rw [beq_eq_false_iff_ne]; omega) | (rw [beq_iff_eq]; omega), rfl⟩
                · by_cases hre : r = 8490
                  · have hmt : meets c.toNat r = true := by rw [HKC.out]; unfold meets; exact decide_eq_true (by rw [show low 107 = 107 by decide]; omega)
                    have hqq : (((8490 : Int) == (r : Int)) : Bool) = true := by rw [beq_iff_eq]; omega
                    clear hre
                    go_wp2_with fail
                    refine wp_loop_rounds 6 ?_
                    rw [rounds_succ]
                    go_wp2_with fail
                    go_meet
                    case rel => exact ⟨8490, rfl, by rw [hmt]; first | rfl | assumption | (rw [beq_eq_false_iff_ne]; omega) | (rw [beq_iff_eq]; omega), rfl⟩
                  · have hmt : meets c.toNat r = false := by rw [HKC.out]; unfold meets; exact decide_eq_false (by rw [show low 107 = 107 by decide]; omega)
                    go_wp2_with fail
                    refine wp_loop_rounds 6 ?_
                    rw [rounds_succ]
                    go_wp2_with fail
                    go_meet
                    case rel => exact ⟨8490, rfl, by rw [hmt]; first | rfl | assumption | (rw [beq_eq_false_iff_ne]; omega) | (rw [beq_iff_eq]; omega), rfl⟩
              · skip
                have HKC : Hid (c.toNat = 83) := hkc
                have hf0 : foldA c.toNat = 115 := by rw [hkc]; decide
                rw [hf0]
                have f115 : ((115 : Int) != (c.toNat : Int)) = true := by rw [bne_iff_ne]; omega
                have f383 : ((383 : Int) != (c.toNat : Int)) = true := by rw [bne_iff_ne]; omega
                have f83 : ((83 : Int) != (c.toNat : Int)) = false := by rw [bne_eq_false_iff_eq]; omega
                clear hf0 hkc
                have hsm : (115 : Int) < (r : Int) := by omega
                by_cases hlr : (383 : Int) < (r : Int)
                · have hmt : meets c.toNat r = false := by rw [HKC.out]; unfold meets; exact decide_eq_false (by rw [show low 83 = 115 by decide]; omega)
                  go_wp2_with fail
                  refine wp_loop_rounds 6 ?_
                  rw [rounds_succ]
                  go_wp2_with fail
                  refine (fold_at 115 383 (by decide) (by decide) _ HTi.out).mono ?_
                  rintro e w2 ⟨rfl, hw⟩
                  replace hw := hw.symm
                  subst hw
                  go_wp2_with fail
                  rw [rounds_succ]
                  go_wp2_with fail
                  refine (fold_383 _ HTi.out).mono ?_
                  rintro e w2 ⟨rfl, hw⟩
                  replace hw := hw.symm
                  subst hw
                  go_wp2_with fail
                  rw [rounds_succ]
                  go_wp2_with fail
                  go_meet
                  case rel => exact ⟨83, rfl, by rw [hmt]; first | rfl | assumption | (rw [beq_eq_false_iff_ne]; omega) | (rw [beq_iff_eq]; omega), rfl⟩
                · by_cases hre : r = 383
                  · have hmt : meets c.toNat r = true := by rw [HKC.out]; unfold meets; exact decide_eq_true (by rw [show low 83 = 115 by decide]; omega)
                    have hqq : (((383 : Int) == (r : Int)) : Bool) = true := by rw [beq_iff_eq]; omega
                    clear hre
                    go_wp2_with fail
                    refine wp_loop_rounds 6 ?_
                    rw [rounds_succ]
                    go_wp2_with fail
                    refine (fold_at 115 383 (by decide) (by decide) _ HTi.out).mono ?_
                    rintro e w2 ⟨rfl, hw⟩
                    replace hw := hw.symm
                    subst hw
                    go_wp2_with fail
                    rw [rounds_succ]
                    go_wp2_with fail
                    go_meet
                    case rel => exact ⟨383, rfl, by rw [hmt]; first | rfl | assumption | (rw [beq_eq_false_iff_ne]; omega) | (rw [beq_iff_eq]; omega), rfl⟩
                  · have hmt : meets c.toNat r = false := by rw [HKC.out]; unfold meets; exact decide_eq_false (by rw [show low 83 = 115 by decide]; omega)
                    go_wp2_with fail
                    refine wp_loop_rounds 6 ?_
                    rw [rounds_succ]
                    go_wp2_with fail
                    refine (fold_at 115 383 (by decide) (by decide) _ HTi.out).mono ?_
                    rintro e w2 ⟨rfl, hw⟩
                    replace hw := hw.symm
                    subst hw
                    go_wp2_with fail
                    rw [rounds_succ]
                    go_wp2_with fail
                    go_meet
                    case rel => exact ⟨383, rfl, by rw [hmt]; first | rfl | assumption | (rw [beq_eq_false_iff_ne]; omega) | (rw [beq_iff_eq]; omega), rfl⟩
              · skip
                have HKC : Hid (c.toNat = 115) := hkc
                have hf0 : foldA c.toNat = 383 := by rw [hkc]; decide
                rw [hf0]
                have f383 : ((383 : Int) != (c.toNat : Int)) = true := by rw [bne_iff_ne]; omega
                have f83 : ((83 : Int) != (c.toNat : Int)) = true := by rw [bne_iff_ne]; omega
                have f115 : ((115 : Int) != (c.toNat : Int)) = false := by rw [bne_eq_false_iff_eq]; omega
                clear hf0 hkc
                have hsm : (115 : Int) < (r : Int) := by omega
                by_cases hlr : (383 : Int) < (r : Int)
                · have hmt : meets c.toNat r = false := by rw [HKC.out]; unfold meets; exact decide_eq_false (by rw [show low 115 = 115 by decide]; omega)
                  go_wp2_with fail
                  refine wp_loop_rounds 6 ?_
                  rw [rounds_succ]
                  go_wp2_with fail
                  refine (fold_383 _ HTi.out).mono ?_
                  rintro e w2 ⟨rfl, hw⟩
                  replace hw := hw.symm
                  subst hw
                  go_wp2_with fail
                  rw [rounds_succ]
                  go_wp2_with fail
                  refine (fold_at 83 115 (by decide) (by decide) _ HTi.out).mono ?_
                  rintro e w2 ⟨rfl, hw⟩
                  replace hw := hw.symm
                  subst hw
                  go_wp2_with fail
                  rw [rounds_succ]
                  go_wp2_with fail
                  go_meet
                  case rel => exact ⟨115, rfl, by rw [hmt]; first | rfl | assumption | (rw [beq_eq_false_iff_ne]; omega) | (rw [beq_iff_eq]; omega), rfl⟩
                · by_cases hre : r = 383
                  · have hmt : meets c.toNat r = true := by rw [HKC.out]; unfold meets; exact decide_eq_true (by rw [show low 115 = 115 by decide]; omega)
                    have hqq : (((383 : Int) == (r : Int)) : Bool) = true := by rw [beq_iff_eq]; omega
                    clear hre
                    go_wp2_with fail
                    refine wp_loop_rounds 6 ?_
                    rw [rounds_succ]
                    go_wp2_with fail
                    go_meet
                    case rel => exact ⟨383, rfl, by rw [hmt]; first | rfl | assumption | (rw [beq_eq_false_iff_ne]; omega) | (rw [beq_iff_eq]; omega), rfl⟩
                  · have hmt : meets c.toNat r = false := by rw [HKC.out]; unfold meets; exact decide_eq_false (by rw [show low 115 = 115 by decide]; omega)
                    go_wp2_with fail
                    refine wp_loop_rounds 6 ?_
                    rw [rounds_succ]
                    go_wp2_with fail
                    go_meet
                    case rel => exact ⟨383, rfl, by rw [hmt]; first | rfl | assumption | (rw [beq_eq_false_iff_ne]; omega) | (rw [beq_iff_eq]; omega), rfl⟩
            case rest =>
              obtain ⟨q, rfl, hq, rfl⟩ := hcut
              cases hm : meets c.toNat r with
              | true =>
                rw [hm] at hq he'
                have hr2 : Hid (folds (S.data.toList.drop (pos + n)) (tb.extract 1 tb.size).data.toList = R) := by
                  unfold Hid
                  rw [← hf.out, hcons, hk, folds_some _ _ _ n (by rw [he'.out]; rfl), ← hcons, List.drop_drop]
                go_wp2
                go_roundw
                case rel => exact ⟨pos + n, tb.extract 1 tb.size, by omega, rfl, by omega, rfl, hA1, hr2⟩
                case measure => simp only [strOf]; omega
              | false =>
                rw [hm] at hq he'
                have hR : Hid (false = R) := by
                  unfold Hid
                  rw [← hf.out, hcons, hk, folds_none _ _ _ (by rw [he'.out]; rfl)]
                go_wp2
                simp only [Exit.jump]
                go_ret
                exact ⟨by rw [← hR.out]; rfl, (Below.refl _ _).alloc (Nat.le_refl _) _⟩
        · have hcons := drop_cons S pos hp
          have h0' : ((tb.size : Int) == 0) = true := by rw [beq_iff_eq]; omega
          have hR : Hid (false = R) := by
            unfold Hid
            have e2 := drop_nil tb 0 (by omega)
            rw [List.drop_zero] at e2
            rw [← hf.out, hcons, e2, folds_end]; rfl
          go_wp2
          simp only [Exit.jump]
          go_ret
          exact ⟨by rw [← hR.out]; rfl, (Below.refl _ _).alloc (Nat.le_refl _) _⟩
      · have hnx : ∀ ty, (Instr.next (.pointer (some ⟨w'.heap.size, 0, none⟩)) true ty).run Tryd.prog (w'.iter S pos) = _ := fun ty => run_next_end w' S pos ty hp
        have hR : Hid ((((tb.size : Int) == 0) : Bool) = R) := by
          unfold Hid
          rw [← hf.out, drop_nil S pos (by omega)]
          by_cases e : 0 < tb.size
          · have e2 := drop_cons tb 0 e
            rw [List.drop_zero] at e2
            rw [e2, folds_none _ _ _ rfl, beq_eq_false_iff_ne.2 (by omega)]
          · have e2 := drop_nil tb 0 (by omega)
            rw [List.drop_zero] at e2
            rw [e2, folds_end, beq_iff_eq.2 (by omega)]; rfl
        go_wp2
        simp only [Exit.jump]
        go_ret
        exact ⟨by rw [← hR.out]; rfl, (Below.refl _ _).alloc (Nat.le_refl _) _⟩
end Go.Proofs.Qxb6612396aDoor
