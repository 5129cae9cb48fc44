import Derived.Test.Qxb6613210aGreatFmtW7
import Derived.Test.Qxb6613210aGreatFmtW3
import Derived.Test.Qxb6613210aGreatFmtPlain3
namespace Go.Proofs.Qxb6613210aGreatFmt
open Go.RowKit Pl

set_option maxRecDepth 100000 in
set_option maxHeartbeats 1000000 in
theorem modelToken_let (s : ByteArray) (w : World) (hs : s.size ≤ 1048576) (h0 : 0 < s.size) (hc : isLet s[0] = true) (D : Nat) (HD : Hid (runEnd isLet s.data.toList 1 = D)) (_hD1 : 1 ≤ D) (hD : D ≤ s.size) :
    Calls Tryz.prog 12 #[.string s] w fun e w' => TokOut (tokOf s.data.toList) s e ∧ Below w.heap.size w w' := by
  have HZ : Hid (s.data.toList.length = s.size) := size_list s
  have HT : Hid (tokOf s.data.toList = if PD s.data.toList then some (57370, 13) else some (keyTok (s.data.toList.take D), D)) := by
    unfold Hid tokOf
    rw [head_list s h0, if_pos hc, HD.out]
  have HP : Hid _ := pd_cases s
  go_enter Tryz.func12, Tryz.ntmps12
  go_upto_region 3 with (first | (go_at_call 24; refine (let_any _ _).mono ?_; rintro e w' ⟨rfl, hw⟩; replace hw := hw.symm; subst hw))
  go_cut [26] from 10 to 26 (fun b wc => b = .bool (PD s.data.toList) ∧ wc = w ∧ (PD s.data.toList = true → 13 ≤ s.size))
  case first =>
    rcases HP.out with ⟨h1, h2⟩ | ⟨h1, h2, h3, h4⟩ | ⟨h1, h2, h3, h4, h5⟩ | ⟨h1, h2, h3, h4, h5⟩
    all_goals
      go_wp2_with (first | (go_at_call 25; refine (begins_any s _ hs).mono ?_; rintro e w' ⟨rfl, hw⟩; replace hw := hw.symm; subst hw) | (go_at_call 24; refine (let_any _ _).mono ?_; rintro e w' ⟨rfl, hw⟩; replace hw := hw.symm; subst hw))
      go_meet
      case rel => exact ⟨by first | rw [h2] | rw [h3] | rw [h5], rfl, by first | (intro; omega) | (intro h; rw [h2] at h; cases h)⟩
  case rest =>
    obtain ⟨rfl, rfl, hpd⟩ := hcut
    cases hP : PD s.data.toList with
    | true =>
      have h13 := hpd hP
      have HT2 : Hid (tokOf s.data.toList = some (57370, 13)) := by unfold Hid; rw [HT.out, hP]; rfl
      go_wp2_with fail
      go_region
      go_wp2
      exact bodyPost_ret (v := .tuple #[.int .i64 57370, .string (s.extract 0 13), .string (s.extract 0 13), .string (s.extract 13 s.size), .bool false]) (by simp [results, Tryz.results12, go_sem]) rfl ⟨TokOut.some 57370 13 _ _ HT2.out rfl, (Below.refl _ _).drew⟩
    | false =>
      have HT2 : Hid (tokOf s.data.toList = some (keyTok (s.extract 0 D).toList, D)) := by
        unfold Hid; rw [HT.out, hP, extract_upto]; rfl
      go_upto_block 0 with fail
      go_cut [8] from 33 to 44 (fun j wd => j = .int .i64 D ∧ wd = wc)
      case first =>
        go_wp2_with fail
        go_loop [8] (fun i => ∃ k : Nat, 1 ≤ k ∧ k ≤ s.size ∧ i = .int .i64 k ∧ Hid (runEnd isLet s.data.toList k = D)) (fun i => s.size - (intOf i).toNat)
        case atStart => exact ⟨1, by omega, by omega, by go_num, HD⟩
        case round =>
          obtain ⟨k, hk2, hk, rfl, hr⟩ := hrel
          by_cases hlt : k < s.size
          · cases hb : isLet s[k] with
            | true =>
              have hr2 : Hid (runEnd isLet s.data.toList (k + 1) = D) := by
                unfold Hid
                rw [← hr.out]; exact (runEnd_step _ _ _ (by rw [HZ.out]; exact hlt) (by rw [getElem_list s k hlt]; exact hb)).symm
              go_wp2_with (go_at_call 24; refine (let_any _ _).mono ?_; rintro e w' ⟨rfl, hw⟩; replace hw := hw.symm; subst hw)
              go_round
              case rel => exact ⟨k + 1, by omega, by omega, by go_num, hr2⟩
              case measure => simp [intOf]; omega
            | false =>
              have hr2 : Hid (k = D) := by
                unfold Hid
                rw [← hr.out]; exact (runEnd_stop _ _ _ (by rw [HZ.out]; exact hlt) (by rw [getElem_list s k hlt]; exact hb)).symm
              go_wp2_with (go_at_call 24; refine (let_any _ _).mono ?_; rintro e w' ⟨rfl, hw⟩; replace hw := hw.symm; subst hw)
              go_meet
              case rel => exact ⟨by rw [hr2.out], rfl⟩
          · have hr2 : Hid (k = D) := by
              unfold Hid
              rw [← hr.out]; exact (runEnd_end _ _ _ (by rw [HZ.out]; omega)).symm
            go_wp2_with fail
            go_meet
            case rel => exact ⟨by rw [hr2.out], rfl⟩
      case rest =>
        obtain ⟨rfl, rfl⟩ := hcut
        go_wp2_with fail
        go_region_with (go_at_call 26; refine (keyword_any (s.extract 0 D) _).mono ?_; rintro e w' ⟨rfl, rfl⟩)
        go_wp2
        exact bodyPost_ret (v := .tuple #[.int .i64 (keyTok (s.extract 0 D).toList), .string (s.extract 0 D), .string (s.extract 0 D), .string (s.extract D s.size), .bool false]) (by simp [results, Tryz.results12, go_sem]) rfl ⟨TokOut.some _ D _ _ HT2.out rfl, (Below.refl _ _).drew⟩
theorem nq_iff (c : UInt8) : nq c = true ↔ ((c.toNat : Int) != 34) = true := by
  simp only [nq, bne_iff_ne, ne_eq]; omega
theorem nq_not (c : UInt8) : nq c = false ↔ ((c.toNat : Int) != 34) = false := by
  rw [← Bool.not_eq_true, ← Bool.not_eq_true, nq_iff]
set_option maxRecDepth 100000 in
set_option maxHeartbeats 1000000 in
theorem modelToken_quote (s : ByteArray) (w : World) (hs : s.size ≤ 1048576) (h0 : 0 < s.size) (hc : isLet s[0] = false) (hq0 : ((s[0].toNat : Int) == 34) = true) (D : Nat) (HD : Hid (runEnd nq s.data.toList 1 = D)) (_hD1 : 1 ≤ D) (hD : D ≤ s.size) :
    Calls Tryz.prog 12 #[.string s] w fun e w' => TokOut (tokOf s.data.toList) s e ∧ Below w.heap.size w w' := by
  have HZ : Hid (s.data.toList.length = s.size) := size_list s
  have HT : Hid (tokOf s.data.toList = if D = s.size then none else some (57379, D + 1)) := by
    unfold Hid tokOf
    rw [head_list s h0, if_neg (by rw [hc]; decide), if_pos (by rw [beq_iff_eq] at hq0; omega), HD.out, HZ.out]
  go_enter Tryz.func12, Tryz.ntmps12
  go_upto_block 2 with (go_at_call 24; refine (let_any _ _).mono ?_; rintro e w' ⟨rfl, hw⟩; replace hw := hw.symm; subst hw)
  go_cut [9] from 60 to 71 (fun j wd => j = .int .i64 D ∧ wd = w)
  case first =>
    go_wp2_with fail
    go_loop [9] (fun i => ∃ k : Nat, 1 ≤ k ∧ k ≤ s.size ∧ i = .int .i64 k ∧ Hid (runEnd nq s.data.toList k = D)) (fun i => s.size - (intOf i).toNat)
    case atStart => exact ⟨1, by omega, by omega, by go_num, HD⟩
    case round =>
      obtain ⟨k, hk2, hk, rfl, hr⟩ := hrel
      by_cases hlt : k < s.size
      · cases hb : nq s[k] with
        | true =>
          have hq := (nq_iff s[k]).1 hb
          have hr2 : Hid (runEnd nq s.data.toList (k + 1) = D) := by
            unfold Hid
            rw [← hr.out]; exact (runEnd_step _ _ _ (by rw [HZ.out]; exact hlt) (by rw [getElem_list s k hlt]; exact hb)).symm
          go_wp2_with (fail)
          go_round
          case rel => exact ⟨k + 1, by omega, by omega, by go_num, hr2⟩
          case measure => simp [intOf]; omega
        | false =>
          have hq := (nq_not s[k]).1 hb
          have hr2 : Hid (k = D) := by
            unfold Hid
            rw [← hr.out]; exact (runEnd_stop _ _ _ (by rw [HZ.out]; exact hlt) (by rw [getElem_list s k hlt]; exact hb)).symm
          go_wp2_with (fail)
          go_meet
          case rel => exact ⟨by rw [hr2.out], rfl⟩
      · have hr2 : Hid (k = D) := by
          unfold Hid
          rw [← hr.out]; exact (runEnd_end _ _ _ (by rw [HZ.out]; omega)).symm
        go_wp2_with fail
        go_meet
        case rel => exact ⟨by rw [hr2.out], rfl⟩
  case rest =>
    obtain ⟨rfl, rfl⟩ := hcut
    by_cases hE : D = s.size
    · have HT2 : Hid (tokOf s.data.toList = none) := by unfold Hid; rw [HT.out, if_pos hE]
      have hE2 : ((D : Int) == (s.size : Int)) = true := by rw [beq_iff_eq]; omega
      clear hE
      go_wp2
      exact bodyPost_ret (v := .tuple #[.int .i64 57383, .string ⟨#[]⟩, .string ⟨#[]⟩, .string s, .bool true]) (by simp [results, Tryz.results12, go_sem]) rfl ⟨TokOut.none _ HT2.out rfl, Below.refl _ _⟩
    · have HT2 : Hid (tokOf s.data.toList = some (57379, D + 1)) := by unfold Hid; rw [HT.out, if_neg hE]
      have hE2 : ((D : Int) == (s.size : Int)) = false := by rw [beq_eq_false_iff_ne]; omega
      have hE3 : D < s.size := by omega
      clear hE
      go_wp2_with fail
      go_region
      go_wp2
      exact bodyPost_ret (v := .tuple #[.int .i64 57379, .string (s.extract 0 (D + 1)), .string (s.extract 1 D), .string (s.extract (D + 1) s.size), .bool false]) (by simp [results, Tryz.results12, go_sem]) rfl ⟨TokOut.some _ (D + 1) _ _ HT2.out rfl, (Below.refl _ _).drew⟩
set_option maxRecDepth 100000 in
set_option maxHeartbeats 1000000 in
theorem modelToken_dig (s : ByteArray) (w : World) (hs : s.size ≤ 1048576) (h0 : 0 < s.size) (hc : isLet s[0] = false) (hq0 : ((s[0].toNat : Int) == 34) = false) (hd : isDig s[0] = true) :
    Calls Tryz.prog 12 #[.string s] w fun e w' => TokOut (tokOf s.data.toList) s e ∧ Below w.heap.size w w' := by
  have HQ : Hid (¬ s[0].toNat = 34) := by unfold Hid; rw [beq_eq_false_iff_ne] at hq0; omega
  have HT : Hid (tokOf s.data.toList = numTok s.data.toList) := by
    unfold Hid tokOf
    rw [head_list s h0, if_neg (by rw [hc]; decide), if_neg HQ.out, if_pos hd]
  have HM := fun w => modelNumber_any s w hs h0 hd
  have HM2 : Hid (∀ w, Calls Tryz.prog 28 #[.string s] w fun e w' => TokOut (numTok s.data.toList) s e ∧ Below w.heap.size w w') := HM
  clear HM
  go_enter Tryz.func12, Tryz.ntmps12
  go_wp2_with (first | (go_at_call 24; refine (let_any _ _).mono ?_; rintro e w' ⟨rfl, hw⟩; replace hw := hw.symm; subst hw) | (go_at_call 27; refine (dig_any _ _).mono ?_; rintro e w' ⟨rfl, hw⟩; replace hw := hw.symm; subst hw))
  refine (HM2.out _).mono ?_
  rintro e w1 ⟨ht, hb⟩
  rcases ht with ⟨t, j, x, y, h1, rfl⟩ | ⟨y, h1, rfl⟩
  · go_wp2
    exact bodyPost_ret (v := .tuple #[.int .i64 t, .string (s.extract 0 j), .string x, .string y, .bool false]) (by simp [results, Tryz.results12, go_sem]) rfl ⟨TokOut.some _ j _ _ (by rw [HT.out]; exact h1) rfl, hb⟩
  · go_wp2
    exact bodyPost_ret (v := .tuple #[.int .i64 57383, .string ⟨#[]⟩, .string ⟨#[]⟩, .string y, .bool true]) (by simp [results, Tryz.results12, go_sem]) rfl ⟨TokOut.none _ (by rw [HT.out]; exact h1) rfl, hb⟩
set_option maxRecDepth 100000 in
set_option maxHeartbeats 1000000 in
theorem modelToken_punct (s : ByteArray) (w : World) (hs : s.size ≤ 1048576) (h0 : 0 < s.size) (hc : isLet s[0] = false) (hq0 : ((s[0].toNat : Int) == 34) = false) (hd : isDig s[0] = false) :
    Calls Tryz.prog 12 #[.string s] w fun e w' => TokOut (tokOf s.data.toList) s e ∧ Below w.heap.size w w' := by
  have HQ : Hid (¬ s[0].toNat = 34) := by unfold Hid; rw [beq_eq_false_iff_ne] at hq0; omega
  have HT : Hid (tokOf s.data.toList = if s[0].toNat = 59 then some ((57382 : Int), 1) else if s[0].toNat = 45 ∨ s[0].toNat = 61 ∨ s[0].toNat = 44 ∨ s[0].toNat = 63 then some ((s[0].toNat : Int), 1) else none) := by
    unfold Hid tokOf
    rw [head_list s h0, if_neg (by rw [hc]; decide), if_neg HQ.out, if_neg (by rw [hd]; decide)]
  by_cases h59 : s[0].toNat = 59
  · have HT2 : Hid (tokOf s.data.toList = some (57382, 1)) := by unfold Hid; rw [HT.out, if_pos h59]
    have e : ((s[0].toNat : Int) == 59) = true := by rw [beq_iff_eq]; omega
    clear h59
    go_enter Tryz.func12, Tryz.ntmps12
    go_wp2_with (first | (go_at_call 24; refine (let_any _ _).mono ?_; rintro e w' ⟨rfl, hw⟩; replace hw := hw.symm; subst hw) | (go_at_call 27; refine (dig_any _ _).mono ?_; rintro e w' ⟨rfl, hw⟩; replace hw := hw.symm; subst hw))
    go_region
    go_wp2
    exact bodyPost_ret (v := .tuple #[.int .i64 57382, .string (s.extract 0 1), .string ⟨#[]⟩, .string (s.extract 1 s.size), .bool false]) (by simp [results, Tryz.results12, go_sem]) rfl ⟨TokOut.some _ 1 _ _ HT2.out rfl, (Below.refl _ _).drew⟩
  · have e : ((s[0].toNat : Int) == 59) = false := by rw [beq_eq_false_iff_ne]; omega
    by_cases hp : s[0].toNat = 45 ∨ s[0].toNat = 61 ∨ s[0].toNat = 44 ∨ s[0].toNat = 63
    · have HT2 : Hid (tokOf s.data.toList = some ((s[0].toNat : Int), 1)) := by unfold Hid; rw [HT.out, if_neg h59, if_pos hp]
      clear h59
      have hp2 : ((s[0].toNat : Int) == 45) = true ∨ (((s[0].toNat : Int) == 45) = false ∧ ((s[0].toNat : Int) == 61) = true) ∨ (((s[0].toNat : Int) == 45) = false ∧ ((s[0].toNat : Int) == 61) = false ∧ ((s[0].toNat : Int) == 44) = true) ∨ (((s[0].toNat : Int) == 45) = false ∧ ((s[0].toNat : Int) == 61) = false ∧ ((s[0].toNat : Int) == 44) = false ∧ ((s[0].toNat : Int) == 63) = true) := by
        simp only [beq_iff_eq, beq_eq_false_iff_ne, ne_eq]; omega
      clear hp
      have hw64 : wrap64 (s[0].toNat : Int) = (s[0].toNat : Int) := by
        have := s[0].toNat_lt
        exact (IntWalk.i64_left _).symm.trans (IntWalk.i64_in _ ⟨by omega, by omega⟩)
      rcases hp2 with h1 | ⟨h1, h2⟩ | ⟨h1, h2, h3⟩ | ⟨h1, h2, h3, h4⟩
      all_goals
        go_enter Tryz.func12, Tryz.ntmps12
        go_wp2_with (first | (go_at_call 24; refine (let_any _ _).mono ?_; rintro e w' ⟨rfl, hw⟩; replace hw := hw.symm; subst hw) | (go_at_call 27; refine (dig_any _ _).mono ?_; rintro e w' ⟨rfl, hw⟩; replace hw := hw.symm; subst hw))
        go_region
        go_wp2
        exact bodyPost_ret (v := .tuple #[.int .i64 (s[0].toNat : Int), .string (s.extract 0 1), .string ⟨#[]⟩, .string (s.extract 1 s.size), .bool false]) (by simp [results, Tryz.results12, go_sem, hw64]) rfl ⟨TokOut.some _ 1 _ _ HT2.out rfl, (Below.refl _ _).drew⟩
    · have HT2 : Hid (tokOf s.data.toList = none) := by unfold Hid; rw [HT.out, if_neg h59, if_neg hp]
      clear h59
      have h1 : ((s[0].toNat : Int) == 45) = false := by rw [beq_eq_false_iff_ne]; omega
      have h2 : ((s[0].toNat : Int) == 61) = false := by rw [beq_eq_false_iff_ne]; omega
      have h3 : ((s[0].toNat : Int) == 44) = false := by rw [beq_eq_false_iff_ne]; omega
      have h4 : ((s[0].toNat : Int) == 63) = false := by rw [beq_eq_false_iff_ne]; omega
      clear hp
      go_enter Tryz.func12, Tryz.ntmps12
      go_wp2_with (first | (go_at_call 24; refine (let_any _ _).mono ?_; rintro e w' ⟨rfl, hw⟩; replace hw := hw.symm; subst hw) | (go_at_call 27; refine (dig_any _ _).mono ?_; rintro e w' ⟨rfl, hw⟩; replace hw := hw.symm; subst hw))
      exact bodyPost_ret (v := .tuple #[.int .i64 57383, .string ⟨#[]⟩, .string ⟨#[]⟩, .string s, .bool true]) (by simp [results, Tryz.results12, go_sem]) rfl ⟨TokOut.none _ HT2.out rfl, Below.refl _ _⟩
/-- modelToken: at every text that is not empty. -/
theorem modelToken_any (s : ByteArray) (w : World) (hs : s.size ≤ 1048576) (h0 : 0 < s.size) :
    Calls Tryz.prog 12 #[.string s] w fun e w' => TokOut (tokOf s.data.toList) s e ∧ Below w.heap.size w w' := by
  cases hc : isLet s[0] with
  | true =>
    obtain ⟨hD1, hD⟩ := runEnd_le isLet s.data.toList 1 (by rw [size_list]; omega)
    rw [size_list] at hD
    exact modelToken_let s w hs h0 hc _ rfl hD1 hD
  | false =>
    cases hq : ((s[0].toNat : Int) == 34) with
    | true =>
      obtain ⟨hD1, hD⟩ := runEnd_le nq s.data.toList 1 (by rw [size_list]; omega)
      rw [size_list] at hD
      exact modelToken_quote s w hs h0 hc hq _ rfl hD1 hD
    | false =>
      cases hd : isDig s[0] with
      | true => exact modelToken_dig s w hs h0 hc hq hd
      | false => exact modelToken_punct s w hs h0 hc hq hd
end Go.Proofs.Qxb6613210aGreatFmt
