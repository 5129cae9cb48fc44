import Derived.Test.Qxb6613227aDoorW3
namespace Go.Proofs.Qxb6613227aDoor
open Go.RowKit
def Decs (s : ByteArray) (w : World) : Prop := ∀ (k : Nat) (wx : World), k < s.size → Below w.heap.size w wx → Calls Tryd.prog 9 #[.string (s.extract k s.size)] wx fun e w' => e = .returned (.tuple #[.int .i32 (Utf8.decode s k).1, .int .i64 (Utf8.decode s k).2]) ∧ Below wx.heap.size wx w'
set_option maxRecDepth 100000 in
set_option maxHeartbeats 1000000 in
theorem plain_whole (s : ByteArray) (n : Int) (w : World) (hs : (s.size : Int) ≤ 1048576) (hn : (s.size : Int) + 2 ≤ n) :
    Calls Tryd.prog 5 #[.string s, .int .i64 n] w fun e w' => e = .returned (.tuple #[.string (mark ++ s ++ mark), .bool false]) ∧ w' = w := by
  have HW : Hid (Calls Tryd.prog 7 #[.string s, .int .i64 n, .func (.func 8) #[] #[]] w fun e w' => e = .returned (.tuple #[.string (mark ++ s ++ mark), .bool false]) ∧ w' = w) := within_whole s n w hs hn
  go_enter Tryd.func5, Tryd.ntmps5
  go_wp2_with fail
  refine HW.out.mono ?_
  rintro e w' ⟨rfl, hw⟩; replace hw := hw.symm; subst hw
  go_wp2_with fail
  go_ret2
  exact ⟨rfl, rfl⟩
set_option maxRecDepth 100000 in
set_option maxHeartbeats 1000000 in
theorem plain_cut (s : ByteArray) (n : Int) (w : World) (hs : (s.size : Int) ≤ 1048576) (hn : n < (s.size : Int) + 2) (hdec : Decs s w) :
    Calls Tryd.prog 5 #[.string s, .int .i64 n] w fun e w' => e = .returned (.tuple #[.string (cutText s n), .bool true]) ∧ Below w.heap.size w w' := by
  have HW : Hid (Calls Tryd.prog 7 #[.string s, .int .i64 n, .func (.func 8) #[] #[]] w fun e w' => e = .returned (.tuple #[.string (cutText s n), .bool true]) ∧ Below w.heap.size w w') := within_cut s n w hs hn hdec
  clear hdec
  go_enter Tryd.func5, Tryd.ntmps5
  go_wp2_with fail
  refine HW.out.mono ?_
  rintro e w1 ⟨rfl, hb⟩
  go_wp2_with fail
  go_ret2
  exact ⟨rfl, hb⟩
theorem cut_low (s : ByteArray) (n : Int) (h : n < 5) : cutText s n = ⟨#[]⟩ := by
  unfold cutText; rw [if_pos (by omega)]
theorem cut_high (s : ByteArray) (n : Int) (h : 5 ≤ n) : cutText s n = mark ++ s.extract 0 (keep s (n - 5) s.size 0) ++ tailMark := by
  have := keep_le s (n - 5) s.size 0 (by omega) (by omega)
  unfold cutText; rw [if_neg (by omega)]
set_option maxRecDepth 100000 in
set_option maxHeartbeats 1000000 in
theorem law_out (s : ByteArray) (n : Int) (w : World) (h : (1048576 : Int) < (s.size : Int)) :
    Calls Tryd.prog 3 #[.string s, .int .i64 n] w fun e w' => e = .returned (.bool true) ∧ Below w.heap.size w w' := by
  go_enter Tryd.func3, Tryd.ntmps3
  go_wp2_with (go_at_call 4; refine (bytes_out s n w h).mono ?_; rintro e w' ⟨rfl, hw⟩; replace hw := hw.symm; subst hw)
  go_ret
  exact ⟨rfl, Below.refl _ _⟩
set_option maxRecDepth 100000 in
set_option maxHeartbeats 1000000 in
theorem law_whole (s : ByteArray) (n : Int) (w : World) (hs : (s.size : Int) ≤ 1048576) (hn : (s.size : Int) + 2 ≤ n) :
    Calls Tryd.prog 3 #[.string s, .int .i64 n] w fun e w' => e = .returned (.bool true) ∧ Below w.heap.size w w' := by
  obtain ⟨G, hG⟩ : ∃ G, mark ++ s ++ mark = G := ⟨_, rfl⟩
  have HP := plain_whole s n w hs hn
  have hG' : (⟨#[34]⟩ : ByteArray) ++ s ++ (⟨#[34]⟩ : ByteArray) = G := hG
  rw [hG] at HP
  clear hG
  have h1 : (⟨#[34]⟩ : ByteArray).size = 1 := rfl
  have HW : Hid (Calls Tryd.prog 5 #[.string s, .int .i64 n] w fun e w' => e = .returned (.tuple #[.string G, .bool false]) ∧ w' = w) := HP
  clear HP
  go_enter Tryd.func3, Tryd.ntmps3
  go_wp2_with (go_at_call 4; refine (bytes_in s n w hs).mono ?_; rintro e w' ⟨rfl, hw⟩; replace hw := hw.symm; subst hw)
  refine HW.out.mono ?_
  rintro e w' ⟨rfl, hw⟩; replace hw := hw.symm; subst hw
  go_wp2_with fail
  go_ret
  exact ⟨rfl, Below.refl _ _⟩
set_option maxRecDepth 100000 in
set_option maxHeartbeats 1000000 in
theorem law_low (s : ByteArray) (n : Int) (w : World) (hs : (s.size : Int) ≤ 1048576) (hn : n < (s.size : Int) + 2) (h5 : n < 5) (hdec : Decs s w) :
    Calls Tryd.prog 3 #[.string s, .int .i64 n] w fun e w' => e = .returned (.bool true) ∧ Below w.heap.size w w' := by
  have HP := plain_cut s n w hs hn hdec
  rw [cut_low s n h5] at HP
  have HW : Hid (Calls Tryd.prog 5 #[.string s, .int .i64 n] w fun e w' => e = .returned (.tuple #[.string ⟨#[]⟩, .bool true]) ∧ Below w.heap.size w w') := HP
  clear HP hdec
  go_enter Tryd.func3, Tryd.ntmps3
  go_wp2_with (go_at_call 4; refine (bytes_in s n w hs).mono ?_; rintro e w' ⟨rfl, hw⟩; replace hw := hw.symm; subst hw)
  refine HW.out.mono ?_
  rintro e w1 ⟨rfl, hb⟩
  go_wp2_with fail
  go_ret
  exact ⟨rfl, hb⟩
set_option maxRecDepth 100000 in
set_option maxHeartbeats 2000000 in
theorem law_cut (s : ByteArray) (n : Int) (w : World) (hs : (s.size : Int) ≤ 1048576) (hn : n < (s.size : Int) + 2) (h5 : 5 ≤ n) (hdec : Decs s w) :
    Calls Tryd.prog 3 #[.string s, .int .i64 n] w fun e w' => e = .returned (.bool true) ∧ Below w.heap.size w w' := by
  have HP := plain_cut s n w hs hn hdec
  rw [cut_high s n h5] at HP
  obtain ⟨G, hG⟩ : ∃ G, mark ++ s.extract 0 (keep s (n - 5) s.size 0) ++ tailMark = G := ⟨_, rfl⟩
  have HG : Hid (mark ++ s.extract 0 (keep s (n - 5) s.size 0) ++ tailMark = G) := hG
  rw [hG] at HP
  clear hG
  have HW : Hid (Calls Tryd.prog 5 #[.string s, .int .i64 n] w fun e w' => e = .returned (.tuple #[.string G, .bool true]) ∧ Below w.heap.size w w') := HP
  clear HP hdec
  have h1 : (⟨#[34]⟩ : ByteArray).size = 1 := rfl
  have h4 : (⟨#[46, 46, 46, 34]⟩ : ByteArray).size = 4 := rfl
  go_enter Tryd.func3, Tryd.ntmps3
  go_wp2_with (go_at_call 4; refine (bytes_in s n w hs).mono ?_; rintro e w' ⟨rfl, hw⟩; replace hw := hw.symm; subst hw)
  refine HW.out.mono ?_
  rintro e w1 ⟨rfl, hb⟩
  have HB : Hid (Below w.heap.size w w1) := hb
  clear hb
  go_wp2_with fail
  go_loop [7, 8] (fun x y => ∃ k f : Nat, x = .int .i64 k ∧ y = .int .i64 k ∧ k ≤ s.size ∧ Hid (keep s (n - 5) f k = keep s (n - 5) s.size 0 ∧ s.size ≤ k + f)) (fun _ y => s.size - (intOf y).toNat)
  case atStart => exact ⟨0, s.size, by go_num, by go_num, by omega, rfl, by omega⟩
  case round =>
    obtain ⟨k, f, rfl, rfl, hk, HK⟩ := hrel
    obtain ⟨Z, hZ⟩ : ∃ Z, s.extract 0 k = Z := ⟨_, rfl⟩
    have hZn : (Z.size : Int) = (k : Int) := by rw [← hZ, ByteArray.size_extract]; omega
    by_cases hlt : k < s.size
    · obtain ⟨hd1, hd2⟩ := wid_pos s k hlt
      have HKG := keep_go s (n - 5) f k HK.out.2 hlt
      have HKC := keep_cut s (n - 5) f k HK.out.2 hlt
      have HL0 := len_any s k w1 (by omega) hlt
      obtain ⟨d, hd⟩ : ∃ d, (Utf8.decode s k).2 = d := ⟨_, rfl⟩
      rw [hd] at hd1 hd2 HKG HKC HL0
      have HL : Hid (Calls Tryd.prog 6 #[.string s, .int .i64 k] w1 fun e w' => e = .returned (.int .i64 d) ∧ w' = w1) := HL0
      clear hd HL0
      by_cases hc : n - 5 < (k : Int) + (d : Int)
      · have HE : Hid (keep s (n - 5) f k = k) := HKC (by omega)
        have hF : (⟨#[34]⟩ : ByteArray) ++ Z ++ (⟨#[46, 46, 46, 34]⟩ : ByteArray) = G := by rw [← HG.out, ← HK.out.1, HE.out, hZ]; rfl
        clear HKG HKC
        go_wp2_with fail
        refine HL.out.mono ?_
        rintro e w' ⟨rfl, hw⟩; replace hw := hw.symm; subst hw
        go_wp2_with fail
        go_ret
        exact ⟨rfl, HB.out⟩
      · obtain ⟨f', hf1, hf2⟩ := HKG (by omega)
        have HF : Hid (keep s (n - 5) f' (k + d) = keep s (n - 5) s.size 0 ∧ s.size ≤ k + d + f') := ⟨hf1.symm.trans HK.out.1, hf2⟩
        clear HKG HKC hf1 hf2
        go_wp2_with fail
        refine HL.out.mono ?_
        rintro e w' ⟨rfl, hw⟩; replace hw := hw.symm; subst hw
        go_wp2_with fail
        go_round
        case rel => exact ⟨k + d, f', by go_num, by go_num, hd2, HF⟩
        case measure => simp [intOf]; omega
    · have HE : Hid (keep s (n - 5) f k = k) := keep_stop s (n - 5) f k (by omega)
      have hks : (s.size : Int) ≤ (k : Int) := by omega
      have hF : (⟨#[34]⟩ : ByteArray) ++ Z ++ (⟨#[46, 46, 46, 34]⟩ : ByteArray) = G := by rw [← HG.out, ← HK.out.1, HE.out, hZ]; rfl
      go_wp2_with fail
      go_ret
      exact ⟨rfl, HB.out⟩
/-- THE LAW answers true at every input, where the decoder decodes, and nothing that was there is turned. -/
theorem law_any (s : ByteArray) (n : Int) (w : World) (hdec : Decs s w) :
    Calls Tryd.prog 3 #[.string s, .int .i64 n] w fun e w' => e = .returned (.bool true) ∧ Below w.heap.size w w' := by
  by_cases hs : (s.size : Int) ≤ 1048576
  · by_cases hn : (s.size : Int) + 2 ≤ n
    · exact law_whole s n w hs hn
    · by_cases h5 : n < 5
      · exact law_low s n w hs (by omega) h5 hdec
      · exact law_cut s n w hs (by omega) (by omega) hdec
  · exact law_out s n w (by omega)
end Go.Proofs.Qxb6613227aDoor
