import Derived.Test.Qxb6613210aGreatFmtW4
import Derived.Test.Qxb6613210aGreatFmtW5
import Derived.Deep.RegionWith
import Derived.Deep.QuietTactic
import Derived.BigQuiet
namespace Go.Proofs.Qxb6613210aGreatFmt
open Go.RowKit Pl

/-- What modelNumber and modelToken hand back, but for the text and the rest. -/
def TokOut (r : Option (Int × Nat)) (s : ByteArray) (e : Ending) : Prop :=
  (∃ t j x y, r = some (t, j) ∧ e = .returned (.tuple #[.int .i64 t, .string (s.extract 0 j), .string x, .string y, .bool false])) ∨
  (∃ y, r = none ∧ e = .returned (.tuple #[.int .i64 57383, .string ⟨#[]⟩, .string ⟨#[]⟩, .string y, .bool true]))
theorem TokOut.some {r : Option (Int × Nat)} {s : ByteArray} {e : Ending} (t : Int) (j : Nat) (x y : ByteArray) (h : r = some (t, j)) (he : e = .returned (.tuple #[.int .i64 t, .string (s.extract 0 j), .string x, .string y, .bool false])) : TokOut r s e := Or.inl ⟨t, j, x, y, h, he⟩
theorem TokOut.none {r : Option (Int × Nat)} {s : ByteArray} {e : Ending} (y : ByteArray) (h : r = .none) (he : e = .returned (.tuple #[.int .i64 57383, .string ⟨#[]⟩, .string ⟨#[]⟩, .string y, .bool true])) : TokOut r s e := Or.inr ⟨y, h, he⟩

theorem isHex_iff (c : UInt8) : isHex c = true ↔ 0 ≤ hexV c := by simp [isHex]

theorem hexes (s : ByteArray) (k : Nat) (hk : k ≤ s.size) (h : runEnd isHex s.data.toList 2 = k) : ∀ (j : Nat) (hj : j < (s.extract 2 k).size), 0 ≤ hexV (s.extract 2 k)[j] := by
  intro j hj
  obtain ⟨h', e, hb⟩ := getElem_extract s 2 k j hk hj
  rw [e]
  obtain ⟨h3, h4⟩ := runEnd_run isHex s.data.toList 2 (2 + j) (by omega) (by omega)
  rw [getElem_list s _ h'] at h4
  exact (isHex_iff _).1 h4

set_option maxRecDepth 100000 in
set_option maxHeartbeats 1000000 in
theorem modelNumber_hex (s : ByteArray) (w : World) (hs : s.size ≤ 1048576) (h1 : 1 < s.size) (h0 : (((s[0]'(by omega)).toNat : Int) == 48) = true) (hx : (((s[1]'h1).toNat : Int) == 120) = true ∨ (((s[1]'h1).toNat : Int) == 88) = true) :
    Calls Tryz.prog 28 #[.string s] w fun e w' => TokOut (numTok s.data.toList) s e ∧ Below w.heap.size w w' := by
  have HZ : Hid (s.data.toList.length = s.size) := size_list s
  have HT : Hid (numTok s.data.toList = _) := numTok_hex s h1 h0 hx
  have hx2 : (((s[1]'h1).toNat : Int) == 120) = true ∨ ((((s[1]'h1).toNat : Int) == 120) = false ∧ (((s[1]'h1).toNat : Int) == 88) = true) := by
    rcases hx with hx | hx
    · exact Or.inl hx
    · refine Or.inr ⟨?_, hx⟩
      rw [beq_eq_false_iff_ne]; rw [beq_iff_eq] at hx; omega
  clear hx
  rcases hx2 with hx | ⟨hx, hx'⟩
  all_goals
    go_enter Tryz.func28, Tryz.ntmps28
    go_wp2
    go_loop [7] (fun i => ∃ k : Nat, 2 ≤ k ∧ k ≤ s.size ∧ i = .int .i64 k ∧ Hid (runEnd isHex s.data.toList 2 = runEnd isHex s.data.toList k)) (fun i => s.size - (intOf i).toNat)
    case atStart => exact ⟨2, by omega, by omega, rfl, rfl⟩
    case round =>
      obtain ⟨k, hk2, hk, rfl, hr⟩ := hrel
      by_cases hgo : ∃ hlt : k < s.size, 0 ≤ hexV s[k]
      · obtain ⟨hlt, hh⟩ := hgo
        have hr2 : Hid (runEnd isHex s.data.toList 2 = runEnd isHex s.data.toList (k + 1)) := by
          unfold Hid
          rw [hr.out]; exact runEnd_step _ _ _ (by rw [HZ.out]; exact hlt) (by rw [getElem_list s k hlt]; exact (isHex_iff _).2 hh)
        go_wp2_with (go_at_call 35; refine (hex_any _ _).mono ?_; rintro e w' ⟨rfl, rfl⟩)
        go_round
        case rel => exact ⟨k + 1, by omega, by omega, by go_num, hr2⟩
        case measure => simp [intOf]; omega
      · have hr2 : Hid (runEnd isHex s.data.toList 2 = k) := by
          unfold Hid
          rw [hr.out]
          by_cases hlt : k < s.size
          · exact runEnd_stop _ _ _ (by rw [HZ.out]; exact hlt) (by rw [getElem_list s k hlt, Bool.eq_false_iff]; exact fun h => hgo ⟨hlt, (isHex_iff _).1 h⟩)
          · exact runEnd_end _ _ _ (by rw [HZ.out]; omega)
        have HX := hexes s k hk hr2.out
        have HX2 : Hid (∀ (j : Nat) (hj : j < (s.extract 2 k).size), 0 ≤ hexV (s.extract 2 k)[j]) := HX
        clear HX
        have hzz := size_extract s 2 k hk2 hk
        have HZ2 : Hid ((s.extract 2 k).size ≤ 1048576) := by unfold Hid; omega
        clear hzz
        by_cases hlt : k < s.size
        · have hh : hexV s[k] < 0 := by
            rcases Int.lt_or_le (hexV s[k]) 0 with h | h
            · exact h
            · exact absurd ⟨hlt, h⟩ hgo
          clear hgo
          by_cases hk3 : k = 2
          · subst hk3
            go_wp2_with (go_at_call 35; refine (hex_any _ _).mono ?_; rintro e w' ⟨rfl, rfl⟩)
            exact bodyPost_ret (v := .tuple #[.int .i64 57383, .string ⟨#[]⟩, .string ⟨#[]⟩, .string s, .bool true]) (by simp [results, Tryz.results28, go_sem]) rfl ⟨TokOut.none s (by rw [HT.out, if_pos hr2.out]) rfl, Below.refl _ _⟩
          · have hk4 : 2 < k := by omega
            go_wp2_with (go_at_call 35; refine (hex_any _ _).mono ?_; rintro e w' ⟨rfl, rfl⟩)
            refine (valueIn16n (s.extract 2 k) _ HZ2.out HX2.out).mono ?_
            rintro e w' ⟨⟨hv, m, hm, rfl⟩ | ⟨hv, rfl⟩, rfl⟩
            · have HV : Hid (valN 16 ((s.data.toList.take (runEnd isHex s.data.toList 2)).drop 2) ≤ 18446744073709551615) := by
                unfold Hid; rw [extract_list] at hv; rw [hr2.out]; exact hv
              clear hv
              go_wp2_with fail
              go_region_with (go_at_call 37; refine (digitsIn_any m _ hm).mono ?_; rintro e w1 ⟨⟨t, rfl⟩, hb⟩)
              go_wp2
              exact bodyPost_ret (v := .tuple #[.int .i64 57380, .string (s.extract 0 k), .string t, .string (s.extract k s.size), .bool false]) (by simp [results, Tryz.results28, go_sem]) rfl ⟨TokOut.some 57380 k t _ (by rw [HT.out, if_neg (by rw [hr2.out]; exact hk3), if_pos HV.out, hr2.out]) rfl, (Below.refl _ _).drew.trans hb⟩
            · have HV : Hid (¬ valN 16 ((s.data.toList.take (runEnd isHex s.data.toList 2)).drop 2) ≤ 18446744073709551615) := by
                unfold Hid; rw [extract_list] at hv; rw [hr2.out]; omega
              clear hv
              go_wp2_with fail
              go_region
              go_wp2
              exact bodyPost_ret (v := .tuple #[.int .i64 57383, .string ⟨#[]⟩, .string ⟨#[]⟩, .string (s.extract k s.size), .bool true]) (by simp [results, Tryz.results28, go_sem]) rfl ⟨TokOut.none _ (by rw [HT.out, if_neg (by rw [hr2.out]; exact hk3), if_neg HV.out]) rfl, (Below.refl _ _).drew⟩
        · clear hgo
          by_cases hk3 : k = 2
          · subst hk3
            go_wp2_with fail
            exact bodyPost_ret (v := .tuple #[.int .i64 57383, .string ⟨#[]⟩, .string ⟨#[]⟩, .string s, .bool true]) (by simp [results, Tryz.results28, go_sem]) rfl ⟨TokOut.none s (by rw [HT.out, if_pos hr2.out]) rfl, Below.refl _ _⟩
          · have hk4 : 2 < k := by omega
            go_wp2_with fail
            refine (valueIn16n (s.extract 2 k) _ HZ2.out HX2.out).mono ?_
            rintro e w' ⟨⟨hv, m, hm, rfl⟩ | ⟨hv, rfl⟩, rfl⟩
            · have HV : Hid (valN 16 ((s.data.toList.take (runEnd isHex s.data.toList 2)).drop 2) ≤ 18446744073709551615) := by
                unfold Hid; rw [extract_list] at hv; rw [hr2.out]; exact hv
              clear hv
              go_wp2_with fail
              go_region_with (go_at_call 37; refine (digitsIn_any m _ hm).mono ?_; rintro e w1 ⟨⟨t, rfl⟩, hb⟩)
              go_wp2
              exact bodyPost_ret (v := .tuple #[.int .i64 57380, .string (s.extract 0 k), .string t, .string (s.extract k s.size), .bool false]) (by simp [results, Tryz.results28, go_sem]) rfl ⟨TokOut.some 57380 k t _ (by rw [HT.out, if_neg (by rw [hr2.out]; exact hk3), if_pos HV.out, hr2.out]) rfl, (Below.refl _ _).drew.trans hb⟩
            · have HV : Hid (¬ valN 16 ((s.data.toList.take (runEnd isHex s.data.toList 2)).drop 2) ≤ 18446744073709551615) := by
                unfold Hid; rw [extract_list] at hv; rw [hr2.out]; omega
              clear hv
              go_wp2_with fail
              go_region
              go_wp2
              exact bodyPost_ret (v := .tuple #[.int .i64 57383, .string ⟨#[]⟩, .string ⟨#[]⟩, .string (s.extract k s.size), .bool true]) (by simp [results, Tryz.results28, go_sem]) rfl ⟨TokOut.none _ (by rw [HT.out, if_neg (by rw [hr2.out]; exact hk3), if_neg HV.out]) rfl, (Below.refl _ _).drew⟩

end Go.Proofs.Qxb6613210aGreatFmt
