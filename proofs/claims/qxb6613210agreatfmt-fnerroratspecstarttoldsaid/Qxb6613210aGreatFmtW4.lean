import Derived.Test.Qxb6613210aGreatFmtW1
namespace Go.Proofs.Qxb6613210aGreatFmt
open Go.RowKit Pl

set_option maxHeartbeats 1000000 in
theorem valueIn8 (s : ByteArray) (w : World) (hs : s.size ≤ 1048576) (hd : ∀ (k : Nat) (h : k < s.size), 0 ≤ hexV s[k]) :
    Calls Tryz.prog 36 #[.string s, .int .u64 8] w fun e w' => ((valN 8 s.data.toList ≤ 18446744073709551615 ∧ e = .returned (.tuple #[.int .u64 (valN 8 s.data.toList), .bool false])) ∨ (18446744073709551615 < valN 8 s.data.toList ∧ e = .returned (.tuple #[.int .u64 0, .bool true]))) ∧ w' = w := by
  have HZ : Hid (s.data.toList.length = s.size) := size_list s
  have HD : Hid (∀ (k : Nat) (h : k < s.size), 0 ≤ hexV s[k]) := hd
  clear hd
  go_enter Tryz.func36, Tryz.ntmps36
  go_wp2
  go_loop [6, 7] (fun v i => ∃ k : Nat, k ≤ s.size ∧ i = .int .i64 k ∧ ∃ n : Nat, v = .int .u64 n ∧ n ≤ 18446744073709551615 ∧ Hid (n = valN 8 (s.data.toList.take k))) (fun _ i => s.size - (intOf i).toNat)
  case atStart => exact ⟨0, Nat.zero_le _, rfl, 0, rfl, by omega, rfl⟩
  case round =>
    obtain ⟨k, hk, rfl, n, rfl, hn, HN⟩ := hrel
    by_cases hlt : k < s.size
    · have h0 := HD.out k hlt
      have h1 := (hexV_bd s[k]).2
      have HS : Hid (valN 8 (s.data.toList.take (k + 1)) = n * 8 + (hexV s[k]).toNat) := by
        unfold Hid; rw [take_snoc s k hlt, valN_snoc, ← HN.out]
      have HL : Hid (valN 8 (s.data.toList.take (k + 1)) ≤ valN 8 s.data.toList) := valN_take_le _ (by omega) s.data.toList (k + 1)
      have HG : Hid (∃ d : Int, hexV s[k] = d) := ⟨_, rfl⟩
      by_cases hov : (n : Int) * 8 + hexV s[k] ≤ 18446744073709551615
      · have ht : (n : Int) ≤ (18446744073709551615 - hexV s[k]) / 8 := by omega
        go_wp2_with (go_at_call 35; refine (hex_any _ _).mono ?_; rintro e w' ⟨rfl, rfl⟩)
        go_round
        case rel => exact ⟨k + 1, by omega, by go_num, n * 8 + (hexV s[k]).toNat, by go_num, by omega, HS.out.symm⟩
        case measure => simp [intOf]; omega
      · have ht : (18446744073709551615 - hexV s[k]) / 8 < (n : Int) := by omega
        go_wp2_with (go_at_call 35; refine (hex_any _ _).mono ?_; rintro e w' ⟨rfl, rfl⟩)
        go_ret2
        exact ⟨Or.inr ⟨by have := HS.out; have := HL.out; omega, rfl⟩, rfl⟩
    · have HE : Hid (n = valN 8 s.data.toList) := by
        unfold Hid; rw [HN.out, List.take_of_length_le (by rw [HZ.out]; omega)]
      go_wp2
      go_ret2
      refine ⟨Or.inl ⟨by have := HE.out; omega, ?_⟩, rfl⟩
      rw [← HE.out]; rfl
/-- The same, the number under a name. -/
theorem valueIn8n (s : ByteArray) (w : World) (hs : s.size ≤ 1048576) (hd : ∀ (k : Nat) (h : k < s.size), 0 ≤ hexV s[k]) :
    Calls Tryz.prog 36 #[.string s, .int .u64 8] w fun e w' => ((valN 8 s.data.toList ≤ 18446744073709551615 ∧ ∃ m : Nat, m ≤ 18446744073709551615 ∧ e = .returned (.tuple #[.int .u64 m, .bool false])) ∨ (18446744073709551615 < valN 8 s.data.toList ∧ e = .returned (.tuple #[.int .u64 0, .bool true]))) ∧ w' = w :=
  (valueIn8 s w hs hd).mono fun _ _ h => ⟨h.1.elim (fun h => Or.inl ⟨h.1, _, h.1, h.2⟩) Or.inr, h.2⟩
set_option maxHeartbeats 1000000 in
theorem valueIn10 (s : ByteArray) (w : World) (hs : s.size ≤ 1048576) (hd : ∀ (k : Nat) (h : k < s.size), 0 ≤ hexV s[k]) :
    Calls Tryz.prog 36 #[.string s, .int .u64 10] w fun e w' => ((valN 10 s.data.toList ≤ 18446744073709551615 ∧ e = .returned (.tuple #[.int .u64 (valN 10 s.data.toList), .bool false])) ∨ (18446744073709551615 < valN 10 s.data.toList ∧ e = .returned (.tuple #[.int .u64 0, .bool true]))) ∧ w' = w := by
  have HZ : Hid (s.data.toList.length = s.size) := size_list s
  have HD : Hid (∀ (k : Nat) (h : k < s.size), 0 ≤ hexV s[k]) := hd
  clear hd
  go_enter Tryz.func36, Tryz.ntmps36
  go_wp2
  go_loop [6, 7] (fun v i => ∃ k : Nat, k ≤ s.size ∧ i = .int .i64 k ∧ ∃ n : Nat, v = .int .u64 n ∧ n ≤ 18446744073709551615 ∧ Hid (n = valN 10 (s.data.toList.take k))) (fun _ i => s.size - (intOf i).toNat)
  case atStart => exact ⟨0, Nat.zero_le _, rfl, 0, rfl, by omega, rfl⟩
  case round =>
    obtain ⟨k, hk, rfl, n, rfl, hn, HN⟩ := hrel
    by_cases hlt : k < s.size
    · have h0 := HD.out k hlt
      have h1 := (hexV_bd s[k]).2
      have HS : Hid (valN 10 (s.data.toList.take (k + 1)) = n * 10 + (hexV s[k]).toNat) := by
        unfold Hid; rw [take_snoc s k hlt, valN_snoc, ← HN.out]
      have HL : Hid (valN 10 (s.data.toList.take (k + 1)) ≤ valN 10 s.data.toList) := valN_take_le _ (by omega) s.data.toList (k + 1)
      have HG : Hid (∃ d : Int, hexV s[k] = d) := ⟨_, rfl⟩
      by_cases hov : (n : Int) * 10 + hexV s[k] ≤ 18446744073709551615
      · have ht : (n : Int) ≤ (18446744073709551615 - hexV s[k]) / 10 := by omega
        go_wp2_with (go_at_call 35; refine (hex_any _ _).mono ?_; rintro e w' ⟨rfl, rfl⟩)
        go_round
        case rel => exact ⟨k + 1, by omega, by go_num, n * 10 + (hexV s[k]).toNat, by go_num, by omega, HS.out.symm⟩
        case measure => simp [intOf]; omega
      · have ht : (18446744073709551615 - hexV s[k]) / 10 < (n : Int) := by omega
        go_wp2_with (go_at_call 35; refine (hex_any _ _).mono ?_; rintro e w' ⟨rfl, rfl⟩)
        go_ret2
        exact ⟨Or.inr ⟨by have := HS.out; have := HL.out; omega, rfl⟩, rfl⟩
    · have HE : Hid (n = valN 10 s.data.toList) := by
        unfold Hid; rw [HN.out, List.take_of_length_le (by rw [HZ.out]; omega)]
      go_wp2
      go_ret2
      refine ⟨Or.inl ⟨by have := HE.out; omega, ?_⟩, rfl⟩
      rw [← HE.out]; rfl
/-- The same, the number under a name. -/
theorem valueIn10n (s : ByteArray) (w : World) (hs : s.size ≤ 1048576) (hd : ∀ (k : Nat) (h : k < s.size), 0 ≤ hexV s[k]) :
    Calls Tryz.prog 36 #[.string s, .int .u64 10] w fun e w' => ((valN 10 s.data.toList ≤ 18446744073709551615 ∧ ∃ m : Nat, m ≤ 18446744073709551615 ∧ e = .returned (.tuple #[.int .u64 m, .bool false])) ∨ (18446744073709551615 < valN 10 s.data.toList ∧ e = .returned (.tuple #[.int .u64 0, .bool true]))) ∧ w' = w :=
  (valueIn10 s w hs hd).mono fun _ _ h => ⟨h.1.elim (fun h => Or.inl ⟨h.1, _, h.1, h.2⟩) Or.inr, h.2⟩
set_option maxHeartbeats 1000000 in
theorem valueIn16 (s : ByteArray) (w : World) (hs : s.size ≤ 1048576) (hd : ∀ (k : Nat) (h : k < s.size), 0 ≤ hexV s[k]) :
    Calls Tryz.prog 36 #[.string s, .int .u64 16] w fun e w' => ((valN 16 s.data.toList ≤ 18446744073709551615 ∧ e = .returned (.tuple #[.int .u64 (valN 16 s.data.toList), .bool false])) ∨ (18446744073709551615 < valN 16 s.data.toList ∧ e = .returned (.tuple #[.int .u64 0, .bool true]))) ∧ w' = w := by
  have HZ : Hid (s.data.toList.length = s.size) := size_list s
  have HD : Hid (∀ (k : Nat) (h : k < s.size), 0 ≤ hexV s[k]) := hd
  clear hd
  go_enter Tryz.func36, Tryz.ntmps36
  go_wp2
  go_loop [6, 7] (fun v i => ∃ k : Nat, k ≤ s.size ∧ i = .int .i64 k ∧ ∃ n : Nat, v = .int .u64 n ∧ n ≤ 18446744073709551615 ∧ Hid (n = valN 16 (s.data.toList.take k))) (fun _ i => s.size - (intOf i).toNat)
  case atStart => exact ⟨0, Nat.zero_le _, rfl, 0, rfl, by omega, rfl⟩
  case round =>
    obtain ⟨k, hk, rfl, n, rfl, hn, HN⟩ := hrel
    by_cases hlt : k < s.size
    · have h0 := HD.out k hlt
      have h1 := (hexV_bd s[k]).2
      have HS : Hid (valN 16 (s.data.toList.take (k + 1)) = n * 16 + (hexV s[k]).toNat) := by
        unfold Hid; rw [take_snoc s k hlt, valN_snoc, ← HN.out]
      have HL : Hid (valN 16 (s.data.toList.take (k + 1)) ≤ valN 16 s.data.toList) := valN_take_le _ (by omega) s.data.toList (k + 1)
      have HG : Hid (∃ d : Int, hexV s[k] = d) := ⟨_, rfl⟩
      by_cases hov : (n : Int) * 16 + hexV s[k] ≤ 18446744073709551615
      · have ht : (n : Int) ≤ (18446744073709551615 - hexV s[k]) / 16 := by omega
        go_wp2_with (go_at_call 35; refine (hex_any _ _).mono ?_; rintro e w' ⟨rfl, rfl⟩)
        go_round
        case rel => exact ⟨k + 1, by omega, by go_num, n * 16 + (hexV s[k]).toNat, by go_num, by omega, HS.out.symm⟩
        case measure => simp [intOf]; omega
      · have ht : (18446744073709551615 - hexV s[k]) / 16 < (n : Int) := by omega
        go_wp2_with (go_at_call 35; refine (hex_any _ _).mono ?_; rintro e w' ⟨rfl, rfl⟩)
        go_ret2
        exact ⟨Or.inr ⟨by have := HS.out; have := HL.out; omega, rfl⟩, rfl⟩
    · have HE : Hid (n = valN 16 s.data.toList) := by
        unfold Hid; rw [HN.out, List.take_of_length_le (by rw [HZ.out]; omega)]
      go_wp2
      go_ret2
      refine ⟨Or.inl ⟨by have := HE.out; omega, ?_⟩, rfl⟩
      rw [← HE.out]; rfl
/-- The same, the number under a name. -/
theorem valueIn16n (s : ByteArray) (w : World) (hs : s.size ≤ 1048576) (hd : ∀ (k : Nat) (h : k < s.size), 0 ≤ hexV s[k]) :
    Calls Tryz.prog 36 #[.string s, .int .u64 16] w fun e w' => ((valN 16 s.data.toList ≤ 18446744073709551615 ∧ ∃ m : Nat, m ≤ 18446744073709551615 ∧ e = .returned (.tuple #[.int .u64 m, .bool false])) ∨ (18446744073709551615 < valN 16 s.data.toList ∧ e = .returned (.tuple #[.int .u64 0, .bool true]))) ∧ w' = w :=
  (valueIn16 s w hs hd).mono fun _ _ h => ⟨h.1.elim (fun h => Or.inl ⟨h.1, _, h.1, h.2⟩) Or.inr, h.2⟩
end Go.Proofs.Qxb6613210aGreatFmt
