import Derived.Test.Qxb6613227aDoorW2
import Derived.BigQuiet
namespace Go.Proofs.Qxb6613227aDoor
open Go.RowKit
set_option maxRecDepth 100000 in
set_option maxHeartbeats 2000000 in
theorem within_whole (s : ByteArray) (n : Int) (w : World) (hs : (s.size : Int) ≤ 1048576) (hn : (s.size : Int) + 2 ≤ n) :
    Calls Tryd.prog 7 #[.string s, .int .i64 n, .func (.func 8) #[] #[]] w fun e w' => e = .returned (.tuple #[.string (mark ++ s ++ mark), .bool false]) ∧ w' = w := by
  have HQ := quote_any s w (by omega)
  obtain ⟨Q, hQ⟩ : ∃ Q, mark ++ s ++ mark = Q := ⟨_, rfl⟩
  have hQs : (Q.size : Int) = (s.size : Int) + 2 := by
    rw [← hQ, len_app, len_app]
    have : mark.size = 1 := rfl
    omega
  rw [hQ] at HQ ⊢
  clear hQ
  have hk : Hid (Calls Tryd.prog 8 #[.string s] w fun e w' => e = .returned (.string Q) ∧ w' = w) := HQ
  clear HQ
  go_enter Tryd.func7, Tryd.ntmps7
  go_wp2_with (go_at_call 8; refine hk.out.mono ?_; rintro e w' ⟨rfl, hw⟩; replace hw := hw.symm; subst hw)
  go_ret2
  exact ⟨rfl, rfl⟩
theorem marks : mark ++ (⟨#[]⟩ : ByteArray) ++ mark = ⟨#[34, 34]⟩ := by decide
theorem cut_none (s : ByteArray) (n : Int) (k f : Nat) (h1 : keep s (n - 5) f k = keep s (n - 5) s.size 0) (h2 : keep s (n - 5) f k = k) (h : n < (k : Int) + 5) : (⟨#[]⟩ : ByteArray) = cutText s n := by
  unfold cutText; rw [← h1, h2, if_pos h]
theorem cut_some (s : ByteArray) (n : Int) (k f : Nat) (h1 : keep s (n - 5) f k = keep s (n - 5) s.size 0) (h2 : keep s (n - 5) f k = k) (h : ¬ n < (k : Int) + 5) : mark ++ s.extract 0 k ++ tailMark = cutText s n := by
  unfold cutText; rw [← h1, h2, if_neg h]
set_option maxRecDepth 100000 in
set_option maxHeartbeats 4000000 in
theorem within_cut (s : ByteArray) (n : Int) (w : World) (hs : (s.size : Int) ≤ 1048576) (hn : n < (s.size : Int) + 2)
    (hdec : ∀ (k : Nat) (wx : World), k < s.size → Below w.heap.size w wx → Calls Tryd.prog 9 #[.string (s.extract k s.size)] wx fun e w' => e = .returned (.tuple #[.int .i32 (Utf8.decode s k).1, .int .i64 (Utf8.decode s k).2]) ∧ Below wx.heap.size wx w') :
    Calls Tryd.prog 7 #[.string s, .int .i64 n, .func (.func 8) #[] #[]] w fun e w' => e = .returned (.tuple #[.string (cutText s n), .bool true]) ∧ Below w.heap.size w w' := by
  have HD : Hid (∀ (k : Nat) (wx : World), k < s.size → Below w.heap.size w wx → Calls Tryd.prog 9 #[.string (s.extract k s.size)] wx fun e w' => e = .returned (.tuple #[.int .i32 (Utf8.decode s k).1, .int .i64 (Utf8.decode s k).2]) ∧ Below wx.heap.size wx w') := hdec
  clear hdec
  obtain ⟨R, hR⟩ : ∃ R, cutText s n = R := ⟨_, rfl⟩
  have HR : Hid (cutText s n = R) := hR
  rw [hR]
  clear hR
  have HQ0 := quote_any s w (by omega)
  obtain ⟨Q, hQ⟩ : ∃ Q, mark ++ s ++ mark = Q := ⟨_, rfl⟩
  have hQs : (Q.size : Int) = (s.size : Int) + 2 := by
    rw [← hQ, len_app, len_app]
    have : mark.size = 1 := rfl
    omega
  rw [hQ] at HQ0
  clear hQ
  have HQ : Hid (Calls Tryd.prog 8 #[.string s] w fun e w' => e = .returned (.string Q) ∧ w' = w) := HQ0
  clear HQ0
  obtain ⟨E, hE⟩ : ∃ E : ByteArray, ⟨#[34, 34]⟩ = E := ⟨_, rfl⟩
  obtain ⟨O, hO⟩ : ∃ O : ByteArray, ⟨#[34]⟩ = O := ⟨_, rfl⟩
  obtain ⟨D, hD⟩ : ∃ D : ByteArray, ⟨#[46, 46, 46, 34]⟩ = D := ⟨_, rfl⟩
  have HE : Hid (Calls Tryd.prog 8 #[.string ⟨#[]⟩] w fun e w' => e = .returned (.string E) ∧ w' = w) := by
    have := quote_any ⟨#[]⟩ w (by decide)
    rw [marks, hE] at this
    exact this
  have hEs : (E.size : Int) = 2 := by rw [← hE]; rfl
  have hE1 : E.extract 0 1 = O := by rw [← hE, ← hO]; decide
  have hE2 : E.extract 1 E.size = O := by rw [← hE, ← hO]; decide
  have hE2' : E.extract 1 2 = O := by rw [← hE, ← hO]; decide
  have hOD : (⟨#[46, 46, 46]⟩ : ByteArray) ++ O = D := by rw [← hO, ← hD]; decide
  have hOs : (O.size : Int) = 1 := by rw [← hO]; rfl
  have hDs : (D.size : Int) = 4 := by rw [← hD]; rfl
  have hd3 : ((⟨#[46, 46, 46]⟩ : ByteArray).size : Int) = 3 := rfl
  have HO : Hid (O.data.toList = [34]) := by unfold Hid; rw [← hO]
  have HDl : Hid (D = tailMark) := by unfold Hid; rw [← hD]; rfl
  clear hE hO hD
  by_cases hln : (s.size : Int) ≤ n
  · go_enter Tryd.func7, Tryd.ntmps7
    go_wp2_with fail
    refine HQ.out.mono ?_
    rintro e w' ⟨rfl, hw⟩; replace hw := hw.symm; subst hw
    go_wp2_with fail
    refine HE.out.mono ?_
    rintro e w' ⟨rfl, hw⟩; replace hw := hw.symm; subst hw
    go_wp2_with fail
    go_region
    go_wp2_with (refine wp_start rfl (.tmp 43) rfl _ O rfl ?_; intro v0 w0 hb0)
    have HB0 := hb0.base (W := w) ⟨rfl, rfl, rfl, Nat.le_refl _, fun _ _ => rfl⟩
    rw [HO.out] at HB0
    clear hb0
    obtain ⟨a0, c0, rfl⟩ := HB0.at 1 rfl
    have HB : Hid (Buf w (.slice a0 1 c0) (34 :: s.data.toList.take 0) w0) := HB0
    clear HB0
    go_loopw [12, 13] (fun b i wr => ∃ (k f : Nat) (a : Option Addr) (c : Nat), b = .slice a (k + 1) c ∧ i = .int .i64 k ∧ k ≤ s.size ∧ Hid (Buf w (.slice a (k + 1) c) (34 :: s.data.toList.take k) wr ∧ keep s (n - 5) f k = keep s (n - 5) s.size 0 ∧ s.size ≤ k + f)) (fun _ i _ => s.size - (intOf i).toNat)
    case atStart => exact ⟨0, s.size, a0, c0, rfl, by go_num, by omega, HB.out, rfl, by omega⟩
    case round =>
      obtain ⟨k, f, a, c, rfl, rfl, hk, HK⟩ := hrel
      by_cases hlt : k < s.size
      · obtain ⟨hd1, hd2⟩ := wid_pos s k hlt
        have HC0 := HD.out k wr hlt HK.out.1.belowW
        have HKG := keep_go s (n - 5) f k HK.out.2.2 hlt
        have HKC := keep_cut s (n - 5) f k HK.out.2.2 hlt
        obtain ⟨d, hd⟩ : ∃ d, (Utf8.decode s k).2 = d := ⟨_, rfl⟩
        obtain ⟨rn, hrn⟩ : ∃ rn : Int, ((Utf8.decode s k).1 : Int) = rn := ⟨_, rfl⟩
        rw [hd] at hd1 hd2 HC0 HKG HKC
        rw [hrn] at HC0
        have HC : Hid (Calls Tryd.prog 9 #[.string (s.extract k s.size)] wr fun e w' => e = .returned (.tuple #[.int .i32 rn, .int .i64 d]) ∧ Below wr.heap.size wr w') := HC0
        have HKG' := HKG
        have HKC' := HKC
        clear hd hrn HC0 HKG HKC
        obtain ⟨X, hX⟩ : ∃ X, s.extract k (k + d) = X := ⟨_, rfl⟩
        have hXn : X.size = d := by rw [← hX, ByteArray.size_extract]; omega
        have HX : Hid ((34 :: s.data.toList.take k) ++ X.data.toList = 34 :: s.data.toList.take (k + d)) := by unfold Hid; rw [← hX]; exact take_more s k d
        have hXs : (X.size : Int) = (d : Int) := by omega
        have HY0 := fun wx => quote_any X wx (by omega)
        have hYX := quoted_mid X
        obtain ⟨Y, hY⟩ : ∃ Y, mark ++ X ++ mark = Y := ⟨_, rfl⟩
        have hYs : (Y.size : Int) = (d : Int) + 2 := by
          rw [← hY, len_app, len_app]
          have : mark.size = 1 := rfl
          omega
        rw [hY] at hYX
        simp only [hY] at HY0
        rw [hXn] at hYX
        have HY : Hid (∀ wx, Calls Tryd.prog 8 #[.string X] wx fun e w' => e = .returned (.string Y) ∧ w' = wx) := HY0
        clear hY HY0
        have hkd : (k : Int) + (d : Int) ≤ (s.size : Int) := by omega
        have hkd0 : (k : Int) ≤ (k : Int) + (d : Int) := by omega
        have hsy : ∀ wx : World, (Instr.slice 9 (.string Y) (some (.int .i64 1)) (some (.int .i64 ((d : Int) + 2 - 1))) none).run Tryd.prog wx = .ok (.string X) wx := by
          intro wx
          rw [run_slice_string wx 9 Y .i64 .i64 1 ((d : Int) + 2 - 1) Tryd.underlying9 (by omega) (by omega) (by omega), show ((d : Int) + 2 - 1).toNat = d + 1 by omega]
          exact congrArg (fun z => Result.ok (Value.string z) wx) hYX
        clear hYX
        by_cases hc : n < (k : Int) + (d : Int) + 5
        · have HE2 : Hid (keep s (n - 5) f k = k) := HKC' (by omega)
          clear HKG' HKC' hXn
          by_cases hz : n < (k : Int) + 5
          · have HF : Hid ((⟨#[]⟩ : ByteArray) = R) := by rw [← HR.out]; exact cut_none s n k f HK.out.2.1 HE2.out hz
            go_wp2_with fail
            refine HC.out.mono ?_
            rintro e w1 ⟨rfl, hb1⟩
            have HB1 : Hid (Below w.heap.size w w1) := HK.out.1.belowW.trans (hb1.mono HK.out.1.belowW.size)
            clear hb1
            go_wp2_with fail
            refine (HY.out w1).mono ?_
            rintro e w' ⟨rfl, hw⟩; replace hw := hw.symm; subst hw
            go_wp2_with fail
            go_ret2
            exact ⟨by rw [← HF.out]; rfl, HB1.out⟩
          · have HF : Hid (mark ++ s.extract 0 k ++ tailMark = R) := by rw [← HR.out]; exact cut_some s n k f HK.out.2.1 HE2.out hz
            go_wp2_with fail
            refine HC.out.mono ?_
            rintro e w1 ⟨rfl, hb1⟩
            have HB1 : Hid (Buf w (.slice a (k + 1) c) (34 :: s.data.toList.take k) w1) := HK.out.1.below hb1
            have hlen : (34 :: s.data.toList.take k : List UInt8).length + D.size ≤ 140737488355328 := by rw [take_len s k hk]; omega
            clear hb1
            go_wp2_with fail
            refine (HY.out w1).mono ?_
            rintro e w' ⟨rfl, hw⟩; replace hw := hw.symm; subst hw
            go_wp2_with (refine wp_buf rfl (.tmp 94) (.tmp 95) rfl w _ _ _ rfl HB1.out D rfl hlen ?_; intro v3 w3 hb3; have hcv := hb3.string)
            go_ret2
            refine ⟨?_, hb3.belowW⟩
            rw [← HF.out, HDl.out, ← text_eq]
            rfl
        · obtain ⟨f', hf1, hf2⟩ := HKG' (by omega)
          have HF : Hid (keep s (n - 5) f' (k + d) = keep s (n - 5) s.size 0 ∧ s.size ≤ k + d + f') := ⟨hf1.symm.trans HK.out.2.1, hf2⟩
          clear HKG' HKC' hXn hf1 hf2
          go_wp2_with fail
          refine HC.out.mono ?_
          rintro e w1 ⟨rfl, hb1⟩
          have HB1 : Hid (Buf w (.slice a (k + 1) c) (34 :: s.data.toList.take k) w1) := HK.out.1.below hb1
          have hlen : (34 :: s.data.toList.take k : List UInt8).length + X.size ≤ 140737488355328 := by rw [take_len s k hk]; omega
          have HL : Hid ((34 :: s.data.toList.take (k + d) : List UInt8).length = k + d + 1) := take_len s (k + d) hd2
          clear hb1
          go_wp2_with fail
          refine (HY.out w1).mono ?_
          rintro e w' ⟨rfl, hw⟩; replace hw := hw.symm; subst hw
          go_wp2_with (refine wp_buf rfl (.tmp 81) (.tmp 82) rfl w _ _ _ rfl HB1.out X rfl hlen ?_; intro v3 w3 hb3; rw [HX.out] at hb3; obtain ⟨a3, c3, rfl⟩ := hb3.at (k + d + 1) HL.out; have HB3 : Hid (Buf w (.slice a3 (k + d + 1) c3) (34 :: s.data.toList.take (k + d)) w3) := hb3; clear hb3)
          go_roundw
          case rel => exact ⟨k + d, f', a3, c3, rfl, by go_num, hd2, HB3.out, HF.out⟩
          case measure => simp [intOf]; omega
      · have hks : k = s.size := by omega
        have HE2 : Hid (keep s (n - 5) f k = k) := keep_stop s (n - 5) f k (by omega)
        have hks2 : (s.size : Int) ≤ (k : Int) := by omega
        clear hks
        have hz : n < (k : Int) + 5 := by omega
        have HF : Hid ((⟨#[]⟩ : ByteArray) = R) := by rw [← HR.out]; exact cut_none s n k f HK.out.2.1 HE2.out hz
        go_wp2_with fail
        go_ret2
        exact ⟨by rw [← HF.out]; rfl, HK.out.1.belowW⟩
  · have hln2 : n < (s.size : Int) := by omega
    clear hn hln
    go_enter Tryd.func7, Tryd.ntmps7
    go_wp2_with fail
    refine HE.out.mono ?_
    rintro e w' ⟨rfl, hw⟩; replace hw := hw.symm; subst hw
    go_wp2_with fail
    go_region
    go_wp2_with (refine wp_start rfl (.tmp 43) rfl _ O rfl ?_; intro v0 w0 hb0)
    have HB0 := hb0.base (W := w) ⟨rfl, rfl, rfl, Nat.le_refl _, fun _ _ => rfl⟩
    rw [HO.out] at HB0
    clear hb0
    obtain ⟨a0, c0, rfl⟩ := HB0.at 1 rfl
    have HB : Hid (Buf w (.slice a0 1 c0) (34 :: s.data.toList.take 0) w0) := HB0
    clear HB0
    go_loopw [12, 13] (fun b i wr => ∃ (k f : Nat) (a : Option Addr) (c : Nat), b = .slice a (k + 1) c ∧ i = .int .i64 k ∧ k ≤ s.size ∧ Hid (Buf w (.slice a (k + 1) c) (34 :: s.data.toList.take k) wr ∧ keep s (n - 5) f k = keep s (n - 5) s.size 0 ∧ s.size ≤ k + f)) (fun _ i _ => s.size - (intOf i).toNat)
    case atStart => exact ⟨0, s.size, a0, c0, rfl, by go_num, by omega, HB.out, rfl, by omega⟩
    case round =>
      obtain ⟨k, f, a, c, rfl, rfl, hk, HK⟩ := hrel
      by_cases hlt : k < s.size
      · obtain ⟨hd1, hd2⟩ := wid_pos s k hlt
        have HC0 := HD.out k wr hlt HK.out.1.belowW
        have HKG := keep_go s (n - 5) f k HK.out.2.2 hlt
        have HKC := keep_cut s (n - 5) f k HK.out.2.2 hlt
        obtain ⟨d, hd⟩ : ∃ d, (Utf8.decode s k).2 = d := ⟨_, rfl⟩
        obtain ⟨rn, hrn⟩ : ∃ rn : Int, ((Utf8.decode s k).1 : Int) = rn := ⟨_, rfl⟩
        rw [hd] at hd1 hd2 HC0 HKG HKC
        rw [hrn] at HC0
        have HC : Hid (Calls Tryd.prog 9 #[.string (s.extract k s.size)] wr fun e w' => e = .returned (.tuple #[.int .i32 rn, .int .i64 d]) ∧ Below wr.heap.size wr w') := HC0
        have HKG' := HKG
        have HKC' := HKC
        clear hd hrn HC0 HKG HKC
        obtain ⟨X, hX⟩ : ∃ X, s.extract k (k + d) = X := ⟨_, rfl⟩
        have hXn : X.size = d := by rw [← hX, ByteArray.size_extract]; omega
        have HX : Hid ((34 :: s.data.toList.take k) ++ X.data.toList = 34 :: s.data.toList.take (k + d)) := by unfold Hid; rw [← hX]; exact take_more s k d
        have hXs : (X.size : Int) = (d : Int) := by omega
        have HY0 := fun wx => quote_any X wx (by omega)
        have hYX := quoted_mid X
        obtain ⟨Y, hY⟩ : ∃ Y, mark ++ X ++ mark = Y := ⟨_, rfl⟩
        have hYs : (Y.size : Int) = (d : Int) + 2 := by
          rw [← hY, len_app, len_app]
          have : mark.size = 1 := rfl
          omega
        rw [hY] at hYX
        simp only [hY] at HY0
        rw [hXn] at hYX
        have HY : Hid (∀ wx, Calls Tryd.prog 8 #[.string X] wx fun e w' => e = .returned (.string Y) ∧ w' = wx) := HY0
        clear hY HY0
        have hkd : (k : Int) + (d : Int) ≤ (s.size : Int) := by omega
        have hkd0 : (k : Int) ≤ (k : Int) + (d : Int) := by omega
        have hsy : ∀ wx : World, (Instr.slice 9 (.string Y) (some (.int .i64 1)) (some (.int .i64 ((d : Int) + 2 - 1))) none).run Tryd.prog wx = .ok (.string X) wx := by
          intro wx
          rw [run_slice_string wx 9 Y .i64 .i64 1 ((d : Int) + 2 - 1) Tryd.underlying9 (by omega) (by omega) (by omega), show ((d : Int) + 2 - 1).toNat = d + 1 by omega]
          exact congrArg (fun z => Result.ok (Value.string z) wx) hYX
        clear hYX
        by_cases hc : n < (k : Int) + (d : Int) + 5
        · have HE2 : Hid (keep s (n - 5) f k = k) := HKC' (by omega)
          clear HKG' HKC' hXn
          by_cases hz : n < (k : Int) + 5
          · have HF : Hid ((⟨#[]⟩ : ByteArray) = R) := by rw [← HR.out]; exact cut_none s n k f HK.out.2.1 HE2.out hz
            go_wp2_with fail
            refine HC.out.mono ?_
            rintro e w1 ⟨rfl, hb1⟩
            have HB1 : Hid (Below w.heap.size w w1) := HK.out.1.belowW.trans (hb1.mono HK.out.1.belowW.size)
            clear hb1
            go_wp2_with fail
            refine (HY.out w1).mono ?_
            rintro e w' ⟨rfl, hw⟩; replace hw := hw.symm; subst hw
            go_wp2_with fail
            go_ret2
            exact ⟨by rw [← HF.out]; rfl, HB1.out⟩
          · have HF : Hid (mark ++ s.extract 0 k ++ tailMark = R) := by rw [← HR.out]; exact cut_some s n k f HK.out.2.1 HE2.out hz
            go_wp2_with fail
            refine HC.out.mono ?_
            rintro e w1 ⟨rfl, hb1⟩
            have HB1 : Hid (Buf w (.slice a (k + 1) c) (34 :: s.data.toList.take k) w1) := HK.out.1.below hb1
            have hlen : (34 :: s.data.toList.take k : List UInt8).length + D.size ≤ 140737488355328 := by rw [take_len s k hk]; omega
            clear hb1
            go_wp2_with fail
            refine (HY.out w1).mono ?_
            rintro e w' ⟨rfl, hw⟩; replace hw := hw.symm; subst hw
            go_wp2_with (refine wp_buf rfl (.tmp 94) (.tmp 95) rfl w _ _ _ rfl HB1.out D rfl hlen ?_; intro v3 w3 hb3; have hcv := hb3.string)
            go_ret2
            refine ⟨?_, hb3.belowW⟩
            rw [← HF.out, HDl.out, ← text_eq]
            rfl
        · obtain ⟨f', hf1, hf2⟩ := HKG' (by omega)
          have HF : Hid (keep s (n - 5) f' (k + d) = keep s (n - 5) s.size 0 ∧ s.size ≤ k + d + f') := ⟨hf1.symm.trans HK.out.2.1, hf2⟩
          clear HKG' HKC' hXn hf1 hf2
          go_wp2_with fail
          refine HC.out.mono ?_
          rintro e w1 ⟨rfl, hb1⟩
          have HB1 : Hid (Buf w (.slice a (k + 1) c) (34 :: s.data.toList.take k) w1) := HK.out.1.below hb1
          have hlen : (34 :: s.data.toList.take k : List UInt8).length + X.size ≤ 140737488355328 := by rw [take_len s k hk]; omega
          have HL : Hid ((34 :: s.data.toList.take (k + d) : List UInt8).length = k + d + 1) := take_len s (k + d) hd2
          clear hb1
          go_wp2_with fail
          refine (HY.out w1).mono ?_
          rintro e w' ⟨rfl, hw⟩; replace hw := hw.symm; subst hw
          go_wp2_with (refine wp_buf rfl (.tmp 81) (.tmp 82) rfl w _ _ _ rfl HB1.out X rfl hlen ?_; intro v3 w3 hb3; rw [HX.out] at hb3; obtain ⟨a3, c3, rfl⟩ := hb3.at (k + d + 1) HL.out; have HB3 : Hid (Buf w (.slice a3 (k + d + 1) c3) (34 :: s.data.toList.take (k + d)) w3) := hb3; clear hb3)
          go_roundw
          case rel => exact ⟨k + d, f', a3, c3, rfl, by go_num, hd2, HB3.out, HF.out⟩
          case measure => simp [intOf]; omega
      · have hks : k = s.size := by omega
        have HE2 : Hid (keep s (n - 5) f k = k) := keep_stop s (n - 5) f k (by omega)
        have hks2 : (s.size : Int) ≤ (k : Int) := by omega
        clear hks
        have hz : n < (k : Int) + 5 := by omega
        have HF : Hid ((⟨#[]⟩ : ByteArray) = R) := by rw [← HR.out]; exact cut_none s n k f HK.out.2.1 HE2.out hz
        go_wp2_with fail
        go_ret2
        exact ⟨by rw [← HF.out]; rfl, HK.out.1.belowW⟩
end Go.Proofs.Qxb6613227aDoor
