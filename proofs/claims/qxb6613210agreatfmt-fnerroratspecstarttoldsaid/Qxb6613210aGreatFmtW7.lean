import Derived.Test.Qxb6613210aGreatFmtW6
import Derived.Test.Qxb6613210aGreatFmtPlain2
import Derived.Deep.CutBlock
import Derived.Deep.CutRange
namespace Go.Proofs.Qxb6613210aGreatFmt
open Go.RowKit Pl

set_option maxRecDepth 100000 in
set_option maxHeartbeats 1000000 in
theorem modelNumber_dot (s : ByteArray) (w : World) (hs : s.size ≤ 1048576) (h0 : 0 < s.size) (hnx : NoHex s) (D : Nat) (HD : Hid (runEnd isDig s.data.toList 1 = D)) (hD1 : 1 ≤ D) (_hD : D ≤ s.size) (hD2 : D < s.size) (hdot : ((s[D].toNat : Int) == 46) = true) (E : Nat) (HE : Hid (runEnd isDig s.data.toList (D + 1) = E)) (_hE1 : D + 1 ≤ E) (hE : E ≤ s.size) :
    Calls Tryz.prog 28 #[.string s] w fun e w' => TokOut (numTok s.data.toList) s e ∧ Below w.heap.size w w' := by
  have HZ : Hid (s.data.toList.length = s.size) := size_list s
  have HX : Hid (NoHex s) := hnx
  clear hnx
  have HT : Hid (numTok s.data.toList = some (57381, E)) := by
    unfold Hid numTok
    rw [if_neg (noHex_not s HX.out), HD.out, if_pos (by rw [get0 s D hD2, u8_of_int (n := 46) hdot (by omega)]; rfl), HE.out]
  go_enter Tryz.func28, Tryz.ntmps28
  go_upto_region 1 with fail
  go_cut [33] from 16 to 33 (fun b wc => b = .bool false ∧ wc = w)
  case first =>
    rcases HX.out with h | ⟨h, h2⟩ | ⟨h, h2, h3, h4⟩
    all_goals go_wp2
    all_goals
      go_meet
      case rel => exact ⟨rfl, rfl⟩
  case rest =>
    obtain ⟨rfl, rfl⟩ := hcut
    go_upto_block 2 with fail
    go_cut [10] from 69 to 80 (fun j wd => j = .int .i64 D ∧ wd = wc)
    case first =>
      go_wp2_with fail
      go_loop [10] (fun i => ∃ k : Nat, 1 ≤ k ∧ k ≤ s.size ∧ i = .int .i64 k ∧ Hid (runEnd isDig s.data.toList k = D)) (fun i => s.size - (intOf i).toNat)
      case atStart => exact ⟨1, by omega, by omega, by go_num, HD⟩
      case round =>
        obtain ⟨k, hk2, hk, rfl, hr⟩ := hrel
        by_cases hlt : k < s.size
        · cases hb : isDig s[k] with
          | true =>
            have hr2 : Hid (runEnd isDig s.data.toList (k + 1) = D) := by
              unfold Hid
              rw [← hr.out]; exact (runEnd_step _ _ _ (by rw [HZ.out]; exact hlt) (by rw [getElem_list s k hlt]; exact hb)).symm
            go_wp2_with (go_at_call 27; refine (dig_any _ _).mono ?_; rintro e w' ⟨rfl, rfl⟩)
            go_round
            case rel => exact ⟨k + 1, by omega, by omega, by go_num, hr2⟩
            case measure => simp [intOf]; omega
          | false =>
            have hr2 : Hid (k = D) := by
              unfold Hid
              rw [← hr.out]; exact (runEnd_stop _ _ _ (by rw [HZ.out]; exact hlt) (by rw [getElem_list s k hlt]; exact hb)).symm
            go_wp2_with (go_at_call 27; refine (dig_any _ _).mono ?_; rintro e w' ⟨rfl, rfl⟩)
            go_meet
            case rel => exact ⟨by rw [hr2.out], rfl⟩
        · have hr2 : Hid (k = D) := by
            unfold Hid
            rw [← hr.out]; exact (runEnd_end _ _ _ (by rw [HZ.out]; omega)).symm
          go_wp2_with fail
          go_meet
          case rel => exact ⟨by rw [hr2.out], rfl⟩
    case rest =>
      obtain ⟨rfl, rfl⟩ := hcut
      go_upto_block 4 with fail
      go_cut [11] from 93 to 104 (fun j wd => j = .int .i64 E ∧ wd = wc)
      case first =>
        go_wp2_with fail
        go_loop [11] (fun i => ∃ k : Nat, D + 1 ≤ k ∧ k ≤ s.size ∧ i = .int .i64 k ∧ Hid (runEnd isDig s.data.toList k = E)) (fun i => s.size - (intOf i).toNat)
        case atStart => exact ⟨D + 1, by omega, by omega, by go_num, HE⟩
        case round =>
          obtain ⟨k, hk2, hk, rfl, hr⟩ := hrel
          by_cases hlt : k < s.size
          · cases hb : isDig s[k] with
            | true =>
              have hr2 : Hid (runEnd isDig s.data.toList (k + 1) = E) := by
                unfold Hid
                rw [← hr.out]; exact (runEnd_step _ _ _ (by rw [HZ.out]; exact hlt) (by rw [getElem_list s k hlt]; exact hb)).symm
              go_wp2_with (go_at_call 27; refine (dig_any _ _).mono ?_; rintro e w' ⟨rfl, rfl⟩)
              go_round
              case rel => exact ⟨k + 1, by omega, by omega, by go_num, hr2⟩
              case measure => simp [intOf]; omega
            | false =>
              have hr2 : Hid (k = E) := by
                unfold Hid
                rw [← hr.out]; exact (runEnd_stop _ _ _ (by rw [HZ.out]; exact hlt) (by rw [getElem_list s k hlt]; exact hb)).symm
              go_wp2_with (go_at_call 27; refine (dig_any _ _).mono ?_; rintro e w' ⟨rfl, rfl⟩)
              go_meet
              case rel => exact ⟨by rw [hr2.out], rfl⟩
          · have hr2 : Hid (k = E) := by
              unfold Hid
              rw [← hr.out]; exact (runEnd_end _ _ _ (by rw [HZ.out]; omega)).symm
            go_wp2_with fail
            go_meet
            case rel => exact ⟨by rw [hr2.out], rfl⟩
      case rest =>
        obtain ⟨rfl, rfl⟩ := hcut
        go_wp2_with fail
        go_region
        go_wp2
        exact bodyPost_ret (v := .tuple #[.int .i64 57381, .string (s.extract 0 E), .string (s.extract 0 E), .string (s.extract E s.size), .bool false]) (by simp [results, Tryz.results28, go_sem]) rfl ⟨TokOut.some 57381 E _ _ HT.out rfl, (Below.refl _ _).drew⟩
set_option maxRecDepth 100000 in
set_option maxHeartbeats 1000000 in
theorem modelNumber_dec (s : ByteArray) (w : World) (hs : s.size ≤ 1048576) (h0 : 0 < s.size) (hnx : NoHex s) (D : Nat) (HD : Hid (runEnd isDig s.data.toList 1 = D)) (hD1 : 1 ≤ D) (hD : D ≤ s.size) (hnd : NoDot s D) (hdg : isDig s[0] = true) (hno : NoOct s h0 D) :
    Calls Tryz.prog 28 #[.string s] w fun e w' => TokOut (numTok s.data.toList) s e ∧ Below w.heap.size w w' := by
  have HZ : Hid (s.data.toList.length = s.size) := size_list s
  have HX : Hid (NoHex s) := hnx
  clear hnx
  have HND : Hid (NoDot s D) := hnd
  clear hnd
  have hzz := size_extract s 0 D (by omega) hD
  have HZ2 : Hid ((s.extract 0 D).size ≤ 1048576) := by unfold Hid; omega
  clear hzz
  have HX2 : Hid (∀ (j : Nat) (hj : j < (s.extract 0 D).size), 0 ≤ hexV (s.extract 0 D)[j]) := digs s D hD h0 hdg HD.out
  clear hdg
  have HNO : Hid (NoOct s h0 D) := hno
  clear hno
  have HT : Hid (numTok s.data.toList = if valN 10 (s.data.toList.take D) ≤ 18446744073709551615 then some (57380, D) else none) := by
    unfold Hid numTok
    rw [if_neg (noHex_not s HX.out), HD.out, if_neg (noDot_not s D HND.out), if_neg (noOct_not s h0 D HNO.out)]
  go_enter Tryz.func28, Tryz.ntmps28
  go_upto_region 1 with fail
  go_cut [33] from 16 to 33 (fun b wc => b = .bool false ∧ wc = w)
  case first =>
    rcases HX.out with h | ⟨h, h2⟩ | ⟨h, h2, h3, h4⟩
    all_goals go_wp2
    all_goals
      go_meet
      case rel => exact ⟨rfl, rfl⟩
  case rest =>
    obtain ⟨rfl, rfl⟩ := hcut
    go_upto_block 2 with fail
    go_cut [10] from 69 to 80 (fun j wd => j = .int .i64 D ∧ wd = wc)
    case first =>
      go_wp2_with fail
      go_loop [10] (fun i => ∃ k : Nat, 1 ≤ k ∧ k ≤ s.size ∧ i = .int .i64 k ∧ Hid (runEnd isDig s.data.toList k = D)) (fun i => s.size - (intOf i).toNat)
      case atStart => exact ⟨1, by omega, by omega, by go_num, HD⟩
      case round =>
        obtain ⟨k, hk2, hk, rfl, hr⟩ := hrel
        by_cases hlt : k < s.size
        · cases hb : isDig s[k] with
          | true =>
            have hr2 : Hid (runEnd isDig s.data.toList (k + 1) = D) := by
              unfold Hid
              rw [← hr.out]; exact (runEnd_step _ _ _ (by rw [HZ.out]; exact hlt) (by rw [getElem_list s k hlt]; exact hb)).symm
            go_wp2_with (go_at_call 27; refine (dig_any _ _).mono ?_; rintro e w' ⟨rfl, rfl⟩)
            go_round
            case rel => exact ⟨k + 1, by omega, by omega, by go_num, hr2⟩
            case measure => simp [intOf]; omega
          | false =>
            have hr2 : Hid (k = D) := by
              unfold Hid
              rw [← hr.out]; exact (runEnd_stop _ _ _ (by rw [HZ.out]; exact hlt) (by rw [getElem_list s k hlt]; exact hb)).symm
            go_wp2_with (go_at_call 27; refine (dig_any _ _).mono ?_; rintro e w' ⟨rfl, rfl⟩)
            go_meet
            case rel => exact ⟨by rw [hr2.out], rfl⟩
        · have hr2 : Hid (k = D) := by
            unfold Hid
            rw [← hr.out]; exact (runEnd_end _ _ _ (by rw [HZ.out]; omega)).symm
          go_wp2_with fail
          go_meet
          case rel => exact ⟨by rw [hr2.out], rfl⟩
    case rest =>
      obtain ⟨rfl, rfl⟩ := hcut
      go_upto_region 14 with fail
      go_cut [90] from 81 to 90 (fun b wd => b = .bool false ∧ wd = wc)
      case first =>
        rcases HND.out with h | ⟨h, h2⟩
        all_goals go_wp2
        all_goals
          go_meet
          case rel => exact ⟨rfl, rfl⟩
      case rest =>
        obtain ⟨rfl, rfl⟩ := hcut
        go_upto_region 20 with fail
        go_cut [120] from 114 to 120 (fun b wd => b = .bool false ∧ wd = wc)
        case first =>
          rcases HNO.out with h | ⟨h, h2⟩
          all_goals go_wp2
          all_goals
            go_meet
            case rel => exact ⟨by first | rfl | (rw [decide_eq_false (by omega)]), rfl⟩
        case rest =>
          obtain ⟨rfl, rfl⟩ := hcut
          go_wp2_with fail
          refine (valueIn10n (s.extract 0 D) _ HZ2.out HX2.out).mono ?_
          rintro e w' ⟨⟨hv, m, hm, rfl⟩ | ⟨hv, rfl⟩, rfl⟩
          · have HV : Hid (valN 10 (s.data.toList.take D) ≤ 18446744073709551615) := by
              unfold Hid; rw [extract0_list] at hv; exact hv
            clear hv
            go_wp2_with fail
            go_region_with (go_at_call 37; refine (digitsIn_any m _ hm).mono ?_; rintro e w1 ⟨⟨t, rfl⟩, hb⟩)
            go_wp2
            exact bodyPost_ret (v := .tuple #[.int .i64 57380, .string (s.extract 0 D), .string t, .string (s.extract D s.size), .bool false]) (by simp [results, Tryz.results28, go_sem]) rfl ⟨TokOut.some 57380 D t _ (by rw [HT.out, if_pos HV.out]) rfl, (Below.refl _ _).drew.trans hb⟩
          · have HV : Hid (¬ valN 10 (s.data.toList.take D) ≤ 18446744073709551615) := by
              unfold Hid; rw [extract0_list] at hv; omega
            clear hv
            go_wp2_with fail
            go_region
            go_wp2
            exact bodyPost_ret (v := .tuple #[.int .i64 57383, .string ⟨#[]⟩, .string ⟨#[]⟩, .string (s.extract D s.size), .bool true]) (by simp [results, Tryz.results28, go_sem]) rfl ⟨TokOut.none _ (by rw [HT.out, if_neg HV.out]) rfl, (Below.refl _ _).drew⟩
set_option maxRecDepth 100000 in
set_option maxHeartbeats 1000000 in
theorem modelNumber_oct (s : ByteArray) (w : World) (hs : s.size ≤ 1048576) (h0 : 0 < s.size) (hnx : NoHex s) (D : Nat) (HD : Hid (runEnd isDig s.data.toList 1 = D)) (hD1 : 1 ≤ D) (hD : D ≤ s.size) (hnd : NoDot s D) (hdg : isDig s[0] = true) (h48 : ((s[0].toNat : Int) == 48) = true) (h1D : 1 < D) :
    Calls Tryz.prog 28 #[.string s] w fun e w' => TokOut (numTok s.data.toList) s e ∧ Below w.heap.size w w' := by
  have HZ : Hid (s.data.toList.length = s.size) := size_list s
  have HX : Hid (NoHex s) := hnx
  clear hnx
  have HND : Hid (NoDot s D) := hnd
  clear hnd
  have hzz := size_extract s 0 D (by omega) hD
  have HZ2 : Hid ((s.extract 0 D).size ≤ 1048576) := by unfold Hid; omega
  clear hzz
  have HX2 : Hid (∀ (j : Nat) (hj : j < (s.extract 0 D).size), 0 ≤ hexV (s.extract 0 D)[j]) := digs s D hD h0 hdg HD.out
  clear hdg
  have HT0 : Hid (numTok s.data.toList = if (s.data.toList.take D).any (fun c => decide (55 < c.toNat)) then none else if valN 8 (s.data.toList.take D) ≤ 18446744073709551615 then some (57380, D) else none) := by
    unfold Hid numTok
    rw [if_neg (noHex_not s HX.out), HD.out, if_neg (noDot_not s D HND.out), if_pos (yesOct s h0 D h48 h1D)]
  have HA := any_take s D hD
  have HA2 : Hid ((s.data.toList.take D).any (fun c => decide (55 < c.toNat)) = true ↔ ∃ k, ∃ h : k < s.size, k < D ∧ 55 < s[k].toNat) := HA
  clear HA
  go_enter Tryz.func28, Tryz.ntmps28
  go_upto_region 1 with fail
  go_cut [33] from 16 to 33 (fun b wc => b = .bool false ∧ wc = w)
  case first =>
    rcases HX.out with h | ⟨h, h2⟩ | ⟨h, h2, h3, h4⟩
    · omega
    · exact absurd (h2.symm.trans h48) (by decide)
    all_goals go_wp2
    all_goals
      go_meet
      case rel => exact ⟨rfl, rfl⟩
  case rest =>
    obtain ⟨rfl, rfl⟩ := hcut
    go_upto_block 2 with fail
    go_cut [10] from 69 to 80 (fun j wd => j = .int .i64 D ∧ wd = wc)
    case first =>
      go_wp2_with fail
      go_loop [10] (fun i => ∃ k : Nat, 1 ≤ k ∧ k ≤ s.size ∧ i = .int .i64 k ∧ Hid (runEnd isDig s.data.toList k = D)) (fun i => s.size - (intOf i).toNat)
      case atStart => exact ⟨1, by omega, by omega, by go_num, HD⟩
      case round =>
        obtain ⟨k, hk2, hk, rfl, hr⟩ := hrel
        by_cases hlt : k < s.size
        · cases hb : isDig s[k] with
          | true =>
            have hr2 : Hid (runEnd isDig s.data.toList (k + 1) = D) := by
              unfold Hid
              rw [← hr.out]; exact (runEnd_step _ _ _ (by rw [HZ.out]; exact hlt) (by rw [getElem_list s k hlt]; exact hb)).symm
            go_wp2_with (go_at_call 27; refine (dig_any _ _).mono ?_; rintro e w' ⟨rfl, rfl⟩)
            go_round
            case rel => exact ⟨k + 1, by omega, by omega, by go_num, hr2⟩
            case measure => simp [intOf]; omega
          | false =>
            have hr2 : Hid (k = D) := by
              unfold Hid
              rw [← hr.out]; exact (runEnd_stop _ _ _ (by rw [HZ.out]; exact hlt) (by rw [getElem_list s k hlt]; exact hb)).symm
            go_wp2_with (go_at_call 27; refine (dig_any _ _).mono ?_; rintro e w' ⟨rfl, rfl⟩)
            go_meet
            case rel => exact ⟨by rw [hr2.out], rfl⟩
        · have hr2 : Hid (k = D) := by
            unfold Hid
            rw [← hr.out]; exact (runEnd_end _ _ _ (by rw [HZ.out]; omega)).symm
          go_wp2_with fail
          go_meet
          case rel => exact ⟨by rw [hr2.out], rfl⟩
    case rest =>
      obtain ⟨rfl, rfl⟩ := hcut
      go_upto_region 14 with fail
      go_cut [90] from 81 to 90 (fun b wd => b = .bool false ∧ wd = wc)
      case first =>
        rcases HND.out with h | ⟨h, h2⟩
        all_goals go_wp2
        all_goals
          go_meet
          case rel => exact ⟨rfl, rfl⟩
      case rest =>
        obtain ⟨rfl, rfl⟩ := hcut
        go_upto_block 6 with fail
        go_cut [13] from 114 to 130 (fun j wd => Hid (∀ k, ∀ h : k < s.size, k < D → s[k].toNat ≤ 55) ∧ wd = wc)
        case first =>
          go_wp2_with fail
          go_loop [13] (fun i => ∃ k : Nat, 1 ≤ k ∧ k ≤ D ∧ i = .int .i64 k ∧ Hid (∀ j, ∀ h : j < s.size, j < k → s[j].toNat ≤ 55)) (fun i => D - (intOf i).toNat)
          case atStart => exact ⟨1, by omega, by omega, rfl, fun j h hj => by
            have : j = 0 := by omega
            subst this
            have := u8_of_int (n := 48) h48 (by omega)
            rw [this]; decide⟩
          case round =>
            obtain ⟨k, hk2, hk, rfl, hr⟩ := hrel
            by_cases hlt : k < D
            · have hlt2 : k < s.size := by omega
              by_cases hb : 55 < (s[k].toNat : Int)
              · go_wp2
                exact bodyPost_ret (v := .tuple #[.int .i64 57383, .string ⟨#[]⟩, .string ⟨#[]⟩, .string s, .bool true]) (by simp [results, Tryz.results28, go_sem]) rfl ⟨TokOut.none _ (by rw [HT0.out, if_pos (HA2.out.2 ⟨k, hlt2, hlt, by omega⟩)]) rfl, Below.refl _ _⟩
              · have hr2 : Hid (∀ j, ∀ h : j < s.size, j < k + 1 → s[j].toNat ≤ 55) := by
                  intro j h hj
                  by_cases e : j = k
                  · subst e; omega
                  · exact hr.out j h (by omega)
                go_wp2
                go_round
                case rel => exact ⟨k + 1, by omega, by omega, by go_num, hr2⟩
                case measure => simp [intOf]; omega
            · go_wp2_with fail
              go_meet
              case rel => exact ⟨fun j h hj => hr.out j h (by omega), rfl⟩
        case rest =>
          obtain ⟨hoct, rfl⟩ := hcut
          have HT : Hid (numTok s.data.toList = if valN 8 (s.data.toList.take D) ≤ 18446744073709551615 then some (57380, D) else none) := by
            unfold Hid
            rw [HT0.out, if_neg]
            intro h
            obtain ⟨k, h1, h2, h3⟩ := HA2.out.1 h
            have := hoct.out k h1 h2
            omega
          go_wp2_with fail
          refine (valueIn8n (s.extract 0 D) _ HZ2.out HX2.out).mono ?_
          rintro e w' ⟨⟨hv, m, hm, rfl⟩ | ⟨hv, rfl⟩, rfl⟩
          · have HV : Hid (valN 8 (s.data.toList.take D) ≤ 18446744073709551615) := by
              unfold Hid; rw [extract0_list] at hv; exact hv
            clear hv
            go_wp2_with fail
            go_region_with (go_at_call 37; refine (digitsIn_any m _ hm).mono ?_; rintro e w1 ⟨⟨t, rfl⟩, hb⟩)
            go_wp2
            exact bodyPost_ret (v := .tuple #[.int .i64 57380, .string (s.extract 0 D), .string t, .string (s.extract D s.size), .bool false]) (by simp [results, Tryz.results28, go_sem]) rfl ⟨TokOut.some 57380 D t _ (by rw [HT.out, if_pos HV.out]) rfl, (Below.refl _ _).drew.trans hb⟩
          · have HV : Hid (¬ valN 8 (s.data.toList.take D) ≤ 18446744073709551615) := by
              unfold Hid; rw [extract0_list] at hv; omega
            clear hv
            go_wp2_with fail
            go_region
            go_wp2
            exact bodyPost_ret (v := .tuple #[.int .i64 57383, .string ⟨#[]⟩, .string ⟨#[]⟩, .string (s.extract D s.size), .bool true]) (by simp [results, Tryz.results28, go_sem]) rfl ⟨TokOut.none _ (by rw [HT.out, if_neg HV.out]) rfl, (Below.refl _ _).drew⟩
/-- modelNumber: at every text that begins with a digit. -/
theorem modelNumber_any (s : ByteArray) (w : World) (hs : s.size ≤ 1048576) (h0 : 0 < s.size) (hd : isDig s[0] = true) :
    Calls Tryz.prog 28 #[.string s] w fun e w' => TokOut (numTok s.data.toList) s e ∧ Below w.heap.size w w' := by
  rcases hex_or s with ⟨h1, h2, h3⟩ | hnx
  · exact modelNumber_hex s w hs h1 h2 h3
  · obtain ⟨hD1, hD⟩ := runEnd_le isDig s.data.toList 1 (by rw [size_list]; omega)
    rw [size_list] at hD
    by_cases hdot : ∃ h : runEnd isDig s.data.toList 1 < s.size, ((s[runEnd isDig s.data.toList 1].toNat : Int) == 46) = true
    · obtain ⟨hD2, hdot⟩ := hdot
      obtain ⟨hE1, hE⟩ := runEnd_le isDig s.data.toList (runEnd isDig s.data.toList 1 + 1) (by rw [size_list]; omega)
      rw [size_list] at hE
      exact modelNumber_dot s w hs h0 hnx _ rfl hD1 hD hD2 hdot _ rfl hE1 hE
    · have hnd : NoDot s (runEnd isDig s.data.toList 1) := by
        rcases Nat.lt_or_ge (runEnd isDig s.data.toList 1) s.size with h | h
        · exact Or.inr ⟨h, by rw [Bool.eq_false_iff]; exact fun e => hdot ⟨h, e⟩⟩
        · exact Or.inl h
      cases h48 : ((s[0].toNat : Int) == 48) with
      | false => exact modelNumber_dec s w hs h0 hnx _ rfl hD1 hD hnd hd (Or.inl h48)
      | true =>
        by_cases h1D : 1 < runEnd isDig s.data.toList 1
        · exact modelNumber_oct s w hs h0 hnx _ rfl hD1 hD hnd hd h48 h1D
        · exact modelNumber_dec s w hs h0 hnx _ rfl hD1 hD hnd hd (Or.inr ⟨h48, by omega⟩)
end Go.Proofs.Qxb6613210aGreatFmt
