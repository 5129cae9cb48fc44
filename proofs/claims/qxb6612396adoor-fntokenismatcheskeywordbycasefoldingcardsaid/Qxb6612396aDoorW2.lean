import Derived.Test.Qxb6612396aDoorW1
namespace Go.Proofs.Qxb6612396aDoor
open Go.RowKit
theorem eats_asc (b c : UInt8) (r : List UInt8) (hb : b.toNat < 128) : eats (b :: r) c = if low b.toNat = low c.toNat then some 1 else none := by
  unfold eats; simp only [if_pos hb]
theorem eats_wide (b c : UInt8) (r : List UInt8) (hb : ¬ b.toNat < 128) : eats (b :: r) c = if low c.toNat = 107 ∧ b = 226 ∧ r.take 2 = [132, 170] then some 3 else if low c.toNat = 115 ∧ b = 197 ∧ r.take 1 = [191] then some 2 else none := by
  unfold eats; simp only [if_neg hb]
theorem u8_eq {b : UInt8} {n : Nat} (h : ((b.toNat : Int) == n) = true) (hn : n < 256) : b = UInt8.ofNat n := by
  apply UInt8.toNat_inj.1
  rw [beq_iff_eq] at h
  rw [UInt8.toNat_ofNat', Nat.mod_eq_of_lt hn]; omega
theorem u8_ne {b : UInt8} {n : Nat} (h : ((b.toNat : Int) == n) = false) (hn : n < 256) : b ≠ UInt8.ofNat n := by
  intro e
  rw [beq_eq_false_iff_ne] at h
  apply h
  rw [e, UInt8.toNat_ofNat', Nat.mod_eq_of_lt hn]
theorem take2 (s : ByteArray) (i : Nat) (h : i + 1 < s.size) : (s.data.toList.drop i).take 2 = [s[i], s[i + 1]] := by
  rw [drop_cons s i (by omega), drop_cons s (i + 1) h]; rfl
theorem take2_short (s : ByteArray) (i : Nat) (h : s.size ≤ i + 1) (a b : UInt8) : (s.data.toList.drop i).take 2 ≠ [a, b] := by
  intro e
  have := congrArg List.length e
  rw [List.length_take, List.length_drop, len_list] at this
  simp at this; omega
theorem take1 (s : ByteArray) (i : Nat) (h : i < s.size) : (s.data.toList.drop i).take 1 = [s[i]] := by
  rw [drop_cons s i h]; rfl
theorem take1_short (s : ByteArray) (i : Nat) (h : s.size ≤ i) (a : UInt8) : (s.data.toList.drop i).take 1 ≠ [a] := by
  rw [drop_nil s i h]; intro e; cases e
set_option maxRecDepth 100000 in
set_option maxHeartbeats 4000000 in
theorem folds_any (s t : ByteArray) (w : World) (hs : s.size ≤ 1048576) (ht : t.size ≤ 1048576) :
    Calls Tryd.prog 8 #[.string s, .string t] w fun e w' => e = .returned (.bool (folds s.data.toList t.data.toList)) ∧ w' = w := by
  obtain ⟨R, hR⟩ : ∃ R, folds s.data.toList t.data.toList = R := ⟨_, rfl⟩
  have HR : Hid (folds s.data.toList t.data.toList = R) := hR
  rw [hR]
  clear hR
  go_enter Tryd.func8, Tryd.ntmps8
  go_wp2_with fail
  go_loop [5, 6] (fun a b => ∃ i j : Nat, i ≤ s.size ∧ j ≤ t.size ∧ a = .int .i64 i ∧ b = .int .i64 j ∧ Hid (folds (s.data.toList.drop i) (t.data.toList.drop j) = R)) (fun _ b => t.size - (intOf b).toNat)
  case atStart => exact ⟨0, 0, by omega, by omega, by go_num, by go_num, HR⟩
  case round =>
    obtain ⟨i, j, hi, hj, rfl, rfl, hr⟩ := hrel
    by_cases hlt : j < t.size
    · have hkw := drop_cons t j hlt
      by_cases hli : i < s.size
      · have htx := drop_cons s i hli
        by_cases hb : (s[i].toNat : Int) < 128
        · cases hl : ((low s[i].toNat : Int) != (low t[j].toNat : Int)) with
          | true =>
            have hR : Hid (false = R) := by
              unfold Hid
              rw [← hr.out, hkw, htx, folds_none _ _ _ (by rw [eats_asc _ _ _ (by omega), if_neg (fun h => by rw [bne_iff_ne] at hl; exact hl (by rw [h]))])]
            go_wp2_with (go_at_call 13; refine (lower_any _ _).mono ?_; rintro e w' ⟨rfl, hw⟩; replace hw := hw.symm; subst hw)
            go_ret
            exact ⟨by rw [← hR.out]; rfl, rfl⟩
          | false =>
            have hr2 : Hid (folds (s.data.toList.drop (i + 1)) (t.data.toList.drop (j + 1)) = R) := by
              unfold Hid
              rw [← hr.out, hkw, htx, folds_some _ _ _ 1 (by rw [eats_asc _ _ _ (by omega), if_pos (by rw [bne_eq_false_iff_eq] at hl; omega)]), ← htx, List.drop_drop]
            go_wp2_with (go_at_call 13; refine (lower_any _ _).mono ?_; rintro e w' ⟨rfl, hw⟩; replace hw := hw.symm; subst hw)
            go_round
            case rel => exact ⟨i + 1, j + 1, by omega, by omega, by go_num, by go_num, hr2⟩
            case measure => simp [intOf]; omega
        · have hb' : ¬ s[i].toNat < 128 := by omega
          cases k1 : ((low t[j].toNat : Int) == 107) with
          | true =>
            have k1' : ((low t[j].toNat : Int) == 115) = false := by rw [beq_iff_eq] at k1; rw [beq_eq_false_iff_ne]; omega
            cases k2 : ((s[i].toNat : Int) == 226) with
            | false =>
              have hR : Hid (false = R) := by
                unfold Hid
                rw [← hr.out, hkw, htx, folds_none _ _ _ (by rw [eats_wide _ _ _ hb', if_neg (fun h => u8_ne (n := 226) k2 (by omega) h.2.1), if_neg (fun h => by rw [beq_eq_false_iff_ne] at k1'; omega)])]
              go_wp2_with (go_at_call 13; refine (lower_any _ _).mono ?_; rintro e w' ⟨rfl, hw⟩; replace hw := hw.symm; subst hw)
              go_ret
              exact ⟨by rw [← hR.out]; rfl, rfl⟩
            | true =>
              by_cases k3 : i + 2 < s.size
              · have k3' : ((i : Int) + 2) < (s.size : Int) := by omega
                cases k4 : ((s[i + 1].toNat : Int) == 132) with
                | false =>
                  have hR : Hid (false = R) := by
                    unfold Hid
                    rw [← hr.out, hkw, htx, folds_none _ _ _ (by rw [eats_wide _ _ _ hb', if_neg (fun h => by rw [take2 s (i + 1) (by omega)] at h; exact u8_ne (n := 132) k4 (by omega) (List.cons.inj h.2.2).1), if_neg (fun h => by rw [beq_eq_false_iff_ne] at k1'; omega)])]
                  go_wp2_with (go_at_call 13; refine (lower_any _ _).mono ?_; rintro e w' ⟨rfl, hw⟩; replace hw := hw.symm; subst hw)
                  go_ret
                  exact ⟨by rw [← hR.out]; rfl, rfl⟩
                | true =>
                  cases k5 : ((s[i + 2].toNat : Int) == 170) with
                  | false =>
                    have hR : Hid (false = R) := by
                      unfold Hid
                      rw [← hr.out, hkw, htx, folds_none _ _ _ (by rw [eats_wide _ _ _ hb', if_neg (fun h => by rw [take2 s (i + 1) (by omega)] at h; exact u8_ne (n := 170) k5 (by omega) (List.cons.inj (List.cons.inj h.2.2).2).1), if_neg (fun h => by rw [beq_eq_false_iff_ne] at k1'; omega)])]
                    go_wp2_with (go_at_call 13; refine (lower_any _ _).mono ?_; rintro e w' ⟨rfl, hw⟩; replace hw := hw.symm; subst hw)
                    go_ret
                    exact ⟨by rw [← hR.out]; rfl, rfl⟩
                  | true =>
                    have hr2 : Hid (folds (s.data.toList.drop (i + 3)) (t.data.toList.drop (j + 1)) = R) := by
                      unfold Hid
                      rw [← hr.out, hkw, htx, folds_some _ _ _ 3 (by rw [eats_wide _ _ _ hb', if_pos ⟨by rw [beq_iff_eq] at k1; omega, u8_eq (n := 226) k2 (by omega), by rw [take2 s (i + 1) (by omega), u8_eq (n := 132) k4 (by omega), u8_eq (n := 170) k5 (by omega)]; rfl⟩]), ← htx, List.drop_drop]
                    go_wp2_with (go_at_call 13; refine (lower_any _ _).mono ?_; rintro e w' ⟨rfl, hw⟩; replace hw := hw.symm; subst hw)
                    go_round
                    case rel => exact ⟨i + 3, j + 1, by omega, by omega, by go_num, by go_num, hr2⟩
                    case measure => simp [intOf]; omega
              · have k3' : ¬ ((i : Int) + 2) < (s.size : Int) := by omega
                have hR : Hid (false = R) := by
                  unfold Hid
                  rw [← hr.out, hkw, htx, folds_none _ _ _ (by rw [eats_wide _ _ _ hb', if_neg (fun h => take2_short s (i + 1) (by omega) _ _ h.2.2), if_neg (fun h => by rw [beq_eq_false_iff_ne] at k1'; omega)])]
                go_wp2_with (go_at_call 13; refine (lower_any _ _).mono ?_; rintro e w' ⟨rfl, hw⟩; replace hw := hw.symm; subst hw)
                go_ret
                exact ⟨by rw [← hR.out]; rfl, rfl⟩
          | false =>
            cases k6 : ((low t[j].toNat : Int) == 115) with
            | false =>
              have hR : Hid (false = R) := by
                unfold Hid
                rw [← hr.out, hkw, htx, folds_none _ _ _ (by rw [eats_wide _ _ _ hb', if_neg (fun h => by rw [beq_eq_false_iff_ne] at k1; omega), if_neg (fun h => by rw [beq_eq_false_iff_ne] at k6; omega)])]
              go_wp2_with (go_at_call 13; refine (lower_any _ _).mono ?_; rintro e w' ⟨rfl, hw⟩; replace hw := hw.symm; subst hw)
              go_ret
              exact ⟨by rw [← hR.out]; rfl, rfl⟩
            | true =>
              cases k7 : ((s[i].toNat : Int) == 197) with
              | false =>
                have hR : Hid (false = R) := by
                  unfold Hid
                  rw [← hr.out, hkw, htx, folds_none _ _ _ (by rw [eats_wide _ _ _ hb', if_neg (fun h => by rw [beq_eq_false_iff_ne] at k1; omega), if_neg (fun h => u8_ne (n := 197) k7 (by omega) h.2.1)])]
                go_wp2_with (go_at_call 13; refine (lower_any _ _).mono ?_; rintro e w' ⟨rfl, hw⟩; replace hw := hw.symm; subst hw)
                go_ret
                exact ⟨by rw [← hR.out]; rfl, rfl⟩
              | true =>
                by_cases k8 : i + 1 < s.size
                · have k8' : ((i : Int) + 1) < (s.size : Int) := by omega
                  cases k9 : ((s[i + 1].toNat : Int) == 191) with
                  | false =>
                    have hR : Hid (false = R) := by
                      unfold Hid
                      rw [← hr.out, hkw, htx, folds_none _ _ _ (by rw [eats_wide _ _ _ hb', if_neg (fun h => by rw [beq_eq_false_iff_ne] at k1; omega), if_neg (fun h => by rw [take1 s (i + 1) (by omega)] at h; exact u8_ne (n := 191) k9 (by omega) (List.cons.inj h.2.2).1)])]
                    go_wp2_with (go_at_call 13; refine (lower_any _ _).mono ?_; rintro e w' ⟨rfl, hw⟩; replace hw := hw.symm; subst hw)
                    go_ret
                    exact ⟨by rw [← hR.out]; rfl, rfl⟩
                  | true =>
                    have hr2 : Hid (folds (s.data.toList.drop (i + 2)) (t.data.toList.drop (j + 1)) = R) := by
                      unfold Hid
                      rw [← hr.out, hkw, htx, folds_some _ _ _ 2 (by rw [eats_wide _ _ _ hb', if_neg (fun h => by rw [beq_eq_false_iff_ne] at k1; omega), if_pos ⟨by rw [beq_iff_eq] at k6; omega, u8_eq (n := 197) k7 (by omega), by rw [take1 s (i + 1) (by omega), u8_eq (n := 191) k9 (by omega)]; rfl⟩]), ← htx, List.drop_drop]
                    go_wp2_with (go_at_call 13; refine (lower_any _ _).mono ?_; rintro e w' ⟨rfl, hw⟩; replace hw := hw.symm; subst hw)
                    go_round
                    case rel => exact ⟨i + 2, j + 1, by omega, by omega, by go_num, by go_num, hr2⟩
                    case measure => simp [intOf]; omega
                · have k8' : ¬ ((i : Int) + 1) < (s.size : Int) := by omega
                  have hR : Hid (false = R) := by
                    unfold Hid
                    rw [← hr.out, hkw, htx, folds_none _ _ _ (by rw [eats_wide _ _ _ hb', if_neg (fun h => by rw [beq_eq_false_iff_ne] at k1; omega), if_neg (fun h => take1_short s (i + 1) (by omega) _ h.2.2)])]
                  go_wp2_with (go_at_call 13; refine (lower_any _ _).mono ?_; rintro e w' ⟨rfl, hw⟩; replace hw := hw.symm; subst hw)
                  go_ret
                  exact ⟨by rw [← hR.out]; rfl, rfl⟩
      · have htx := drop_nil s i (by omega)
        have hR : Hid (false = R) := by
          unfold Hid
          rw [← hr.out, hkw, htx, folds_none _ _ _ (rfl)]
        go_wp2_with (go_at_call 13; refine (lower_any _ _).mono ?_; rintro e w' ⟨rfl, hw⟩; replace hw := hw.symm; subst hw)
        go_ret
        exact ⟨by rw [← hR.out]; rfl, rfl⟩
    · have hj2 : j = t.size := by omega
      have hR : Hid ((((i : Int) == (s.size : Int)) : Bool) = R) := by
        unfold Hid
        rw [← hr.out, drop_nil t j (by omega), folds_end]
        by_cases e : i < s.size
        · rw [drop_cons s i e, beq_eq_false_iff_ne.2 (by omega)]; rfl
        · rw [drop_nil s i (by omega), beq_iff_eq.2 (by omega)]; rfl
      go_wp2
      go_ret
      exact ⟨by rw [← hR.out]; rfl, rfl⟩
end Go.Proofs.Qxb6612396aDoor
