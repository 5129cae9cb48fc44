import Derived.Test.Qxb6613227aDoorPlain2
import Derived.Handy
import Derived.WalkMore
import Derived.Laws.RangeAny
namespace Go.Proofs.Qxb6613227aDoor
open Go.RowKit
set_option maxRecDepth 100000 in
theorem quote_any (x : ByteArray) (w : World) (hx : x.size ≤ 1048576) :
    Calls Tryd.prog 8 #[.string x] w fun e w' => e = .returned (.string (mark ++ x ++ mark)) ∧ w' = w := by
  have h1 : (⟨#[34]⟩ : ByteArray).size = 1 := rfl
  go_enter Tryd.func8, Tryd.ntmps8
  go_wp2
  go_ret
  exact ⟨rfl, rfl⟩
set_option maxRecDepth 100000 in
theorem bytes_in (s : ByteArray) (n : Int) (w : World) (h : (s.size : Int) ≤ 1048576) :
    Calls Tryd.prog 4 #[.string s, .int .i64 n] w fun e w' => e = .returned (.bool true) ∧ w' = w := by
  go_enter Tryd.func4, Tryd.ntmps4
  go_wp2
  go_ret
  exact ⟨rfl, rfl⟩
set_option maxRecDepth 100000 in
theorem bytes_out (s : ByteArray) (n : Int) (w : World) (h : (1048576 : Int) < (s.size : Int)) :
    Calls Tryd.prog 4 #[.string s, .int .i64 n] w fun e w' => e = .returned (.bool false) ∧ w' = w := by
  go_enter Tryd.func4, Tryd.ntmps4
  go_wp2
  go_ret
  exact ⟨rfl, rfl⟩
theorem len_one (s : ByteArray) (i : Nat) (w : World) (hi : i < s.size) (hb : s[i].toNat < 194 ∨ 244 < s[i].toNat) :
    Calls Tryd.prog 6 #[.string s, .int .i64 i] w fun e w' => e = .returned (.int .i64 (Utf8.decode s i).2) ∧ w' = w := by
  obtain ⟨R, hR⟩ : ∃ R, (Utf8.decode s i).2 = R := ⟨_, rfl⟩
  have HR : Hid (1 = R) := by unfold Hid; rw [← hR, wid_one s i hi hb]
  rw [hR]
  clear hR
  rcases hb with hb | hb
  · have b1 : (s[i].toNat : Int) < 194 := by omega
    clear hb
    go_enter Tryd.func6, Tryd.ntmps6
    go_wp2
    go_ret
    exact ⟨by rw [← HR.out]; rfl, rfl⟩
  · have b1 : (244 : Int) < (s[i].toNat : Int) := by omega
    clear hb
    go_enter Tryd.func6, Tryd.ntmps6
    go_wp2
    go_ret
    exact ⟨by rw [← HR.out]; rfl, rfl⟩
set_option maxRecDepth 100000 in
set_option maxHeartbeats 2000000 in
theorem len_C2 (s : ByteArray) (i : Nat) (w : World) (hs : s.size ≤ 1048576) (hi : i < s.size) (hb : 194 ≤ s[i].toNat ∧ s[i].toNat < 224) :
    Calls Tryd.prog 6 #[.string s, .int .i64 i] w fun e w' => e = .returned (.int .i64 (Utf8.decode s i).2) ∧ w' = w := by
  obtain ⟨R, hR⟩ : ∃ R, (Utf8.decode s i).2 = R := ⟨_, rfl⟩
  have HR : Hid (slowW s i 2 128 191 = R) := by unfold Hid; rw [← hR, wid_C2 s i hi hb]
  rw [hR]
  clear hR
  have b1 : (194 : Int) ≤ (s[i].toNat : Int) := by omega
  have b2 : (s[i].toNat : Int) < 224 := by omega
  clear hb
  go_enter Tryd.func6, Tryd.ntmps6
  go_wp2
  all_goals (try go_rounds 3)
  all_goals go_ret
  all_goals (refine ⟨congrArg (fun x : Int => Ending.returned (Value.int .i64 x)) ?_, rfl⟩)
  all_goals (rw [← HR.out]; unfold slowW)
  all_goals (try rw [get_bang s (i + 1) (by omega)])
  all_goals (try rw [get_bang s (i + 2) (by omega)])
  all_goals (try rw [get_bang s (i + 3) (by omega)])
  all_goals (repeat' split)
  all_goals omega
set_option maxRecDepth 100000 in
set_option maxHeartbeats 2000000 in
theorem len_E0 (s : ByteArray) (i : Nat) (w : World) (hs : s.size ≤ 1048576) (hi : i < s.size) (hb : s[i].toNat = 224) :
    Calls Tryd.prog 6 #[.string s, .int .i64 i] w fun e w' => e = .returned (.int .i64 (Utf8.decode s i).2) ∧ w' = w := by
  obtain ⟨R, hR⟩ : ∃ R, (Utf8.decode s i).2 = R := ⟨_, rfl⟩
  have HR : Hid (slowW s i 3 160 191 = R) := by unfold Hid; rw [← hR, wid_E0 s i hi hb]
  rw [hR]
  clear hR
  have b1 : (s[i].toNat : Int) = 224 := by omega
  clear hb
  go_enter Tryd.func6, Tryd.ntmps6
  go_wp2
  all_goals (try go_rounds 3)
  all_goals go_ret
  all_goals (refine ⟨congrArg (fun x : Int => Ending.returned (Value.int .i64 x)) ?_, rfl⟩)
  all_goals (rw [← HR.out]; unfold slowW)
  all_goals (try rw [get_bang s (i + 1) (by omega)])
  all_goals (try rw [get_bang s (i + 2) (by omega)])
  all_goals (try rw [get_bang s (i + 3) (by omega)])
  all_goals (repeat' split)
  all_goals omega
set_option maxRecDepth 100000 in
set_option maxHeartbeats 2000000 in
theorem len_E1 (s : ByteArray) (i : Nat) (w : World) (hs : s.size ≤ 1048576) (hi : i < s.size) (hb : (225 ≤ s[i].toNat ∧ s[i].toNat < 237) ∨ (238 ≤ s[i].toNat ∧ s[i].toNat < 240)) :
    Calls Tryd.prog 6 #[.string s, .int .i64 i] w fun e w' => e = .returned (.int .i64 (Utf8.decode s i).2) ∧ w' = w := by
  obtain ⟨R, hR⟩ : ∃ R, (Utf8.decode s i).2 = R := ⟨_, rfl⟩
  have HR : Hid (slowW s i 3 128 191 = R) := by unfold Hid; rw [← hR, wid_E1 s i hi hb]
  rw [hR]
  clear hR
  have b1 : (225 : Int) ≤ (s[i].toNat : Int) := by omega
  have b2 : (s[i].toNat : Int) < 240 := by omega
  have b3 : (s[i].toNat : Int) ≠ 237 := by omega
  clear hb
  go_enter Tryd.func6, Tryd.ntmps6
  go_wp2
  all_goals (try go_rounds 3)
  all_goals go_ret
  all_goals (refine ⟨congrArg (fun x : Int => Ending.returned (Value.int .i64 x)) ?_, rfl⟩)
  all_goals (rw [← HR.out]; unfold slowW)
  all_goals (try rw [get_bang s (i + 1) (by omega)])
  all_goals (try rw [get_bang s (i + 2) (by omega)])
  all_goals (try rw [get_bang s (i + 3) (by omega)])
  all_goals (repeat' split)
  all_goals omega
set_option maxRecDepth 100000 in
set_option maxHeartbeats 2000000 in
theorem len_ED (s : ByteArray) (i : Nat) (w : World) (hs : s.size ≤ 1048576) (hi : i < s.size) (hb : s[i].toNat = 237) :
    Calls Tryd.prog 6 #[.string s, .int .i64 i] w fun e w' => e = .returned (.int .i64 (Utf8.decode s i).2) ∧ w' = w := by
  obtain ⟨R, hR⟩ : ∃ R, (Utf8.decode s i).2 = R := ⟨_, rfl⟩
  have HR : Hid (slowW s i 3 128 159 = R) := by unfold Hid; rw [← hR, wid_ED s i hi hb]
  rw [hR]
  clear hR
  have b1 : (s[i].toNat : Int) = 237 := by omega
  clear hb
  go_enter Tryd.func6, Tryd.ntmps6
  go_wp2
  all_goals (try go_rounds 3)
  all_goals go_ret
  all_goals (refine ⟨congrArg (fun x : Int => Ending.returned (Value.int .i64 x)) ?_, rfl⟩)
  all_goals (rw [← HR.out]; unfold slowW)
  all_goals (try rw [get_bang s (i + 1) (by omega)])
  all_goals (try rw [get_bang s (i + 2) (by omega)])
  all_goals (try rw [get_bang s (i + 3) (by omega)])
  all_goals (repeat' split)
  all_goals omega
set_option maxRecDepth 100000 in
set_option maxHeartbeats 2000000 in
theorem len_F0 (s : ByteArray) (i : Nat) (w : World) (hs : s.size ≤ 1048576) (hi : i < s.size) (hb : s[i].toNat = 240) :
    Calls Tryd.prog 6 #[.string s, .int .i64 i] w fun e w' => e = .returned (.int .i64 (Utf8.decode s i).2) ∧ w' = w := by
  obtain ⟨R, hR⟩ : ∃ R, (Utf8.decode s i).2 = R := ⟨_, rfl⟩
  have HR : Hid (slowW s i 4 144 191 = R) := by unfold Hid; rw [← hR, wid_F0 s i hi hb]
  rw [hR]
  clear hR
  have b1 : (s[i].toNat : Int) = 240 := by omega
  clear hb
  go_enter Tryd.func6, Tryd.ntmps6
  go_wp2
  all_goals (try go_rounds 3)
  all_goals go_ret
  all_goals (refine ⟨congrArg (fun x : Int => Ending.returned (Value.int .i64 x)) ?_, rfl⟩)
  all_goals (rw [← HR.out]; unfold slowW)
  all_goals (try rw [get_bang s (i + 1) (by omega)])
  all_goals (try rw [get_bang s (i + 2) (by omega)])
  all_goals (try rw [get_bang s (i + 3) (by omega)])
  all_goals (repeat' split)
  all_goals omega
set_option maxRecDepth 100000 in
set_option maxHeartbeats 2000000 in
theorem len_F1 (s : ByteArray) (i : Nat) (w : World) (hs : s.size ≤ 1048576) (hi : i < s.size) (hb : 241 ≤ s[i].toNat ∧ s[i].toNat < 244) :
    Calls Tryd.prog 6 #[.string s, .int .i64 i] w fun e w' => e = .returned (.int .i64 (Utf8.decode s i).2) ∧ w' = w := by
  obtain ⟨R, hR⟩ : ∃ R, (Utf8.decode s i).2 = R := ⟨_, rfl⟩
  have HR : Hid (slowW s i 4 128 191 = R) := by unfold Hid; rw [← hR, wid_F1 s i hi hb]
  rw [hR]
  clear hR
  have b1 : (241 : Int) ≤ (s[i].toNat : Int) := by omega
  have b2 : (s[i].toNat : Int) < 244 := by omega
  clear hb
  go_enter Tryd.func6, Tryd.ntmps6
  go_wp2
  all_goals (try go_rounds 3)
  all_goals go_ret
  all_goals (refine ⟨congrArg (fun x : Int => Ending.returned (Value.int .i64 x)) ?_, rfl⟩)
  all_goals (rw [← HR.out]; unfold slowW)
  all_goals (try rw [get_bang s (i + 1) (by omega)])
  all_goals (try rw [get_bang s (i + 2) (by omega)])
  all_goals (try rw [get_bang s (i + 3) (by omega)])
  all_goals (repeat' split)
  all_goals omega
set_option maxRecDepth 100000 in
set_option maxHeartbeats 2000000 in
theorem len_F4 (s : ByteArray) (i : Nat) (w : World) (hs : s.size ≤ 1048576) (hi : i < s.size) (hb : s[i].toNat = 244) :
    Calls Tryd.prog 6 #[.string s, .int .i64 i] w fun e w' => e = .returned (.int .i64 (Utf8.decode s i).2) ∧ w' = w := by
  obtain ⟨R, hR⟩ : ∃ R, (Utf8.decode s i).2 = R := ⟨_, rfl⟩
  have HR : Hid (slowW s i 4 128 143 = R) := by unfold Hid; rw [← hR, wid_F4 s i hi hb]
  rw [hR]
  clear hR
  have b1 : (s[i].toNat : Int) = 244 := by omega
  clear hb
  go_enter Tryd.func6, Tryd.ntmps6
  go_wp2
  all_goals (try go_rounds 3)
  all_goals go_ret
  all_goals (refine ⟨congrArg (fun x : Int => Ending.returned (Value.int .i64 x)) ?_, rfl⟩)
  all_goals (rw [← HR.out]; unfold slowW)
  all_goals (try rw [get_bang s (i + 1) (by omega)])
  all_goals (try rw [get_bang s (i + 2) (by omega)])
  all_goals (try rw [get_bang s (i + 3) (by omega)])
  all_goals (repeat' split)
  all_goals omega
theorem len_any (s : ByteArray) (i : Nat) (w : World) (hs : s.size ≤ 1048576) (hi : i < s.size) :
    Calls Tryd.prog 6 #[.string s, .int .i64 i] w fun e w' => e = .returned (.int .i64 (Utf8.decode s i).2) ∧ w' = w := by
  rcases (show (s[i].toNat < 194 ∨ 244 < s[i].toNat) ∨ (194 ≤ s[i].toNat ∧ s[i].toNat < 224) ∨ s[i].toNat = 224 ∨ ((225 ≤ s[i].toNat ∧ s[i].toNat < 237) ∨ (238 ≤ s[i].toNat ∧ s[i].toNat < 240)) ∨ s[i].toNat = 237 ∨ s[i].toNat = 240 ∨ (241 ≤ s[i].toNat ∧ s[i].toNat < 244) ∨ s[i].toNat = 244 by omega) with h | h | h | h | h | h | h | h
  · exact len_one s i w hi h
  · exact len_C2 s i w hs hi h
  · exact len_E0 s i w hs hi h
  · exact len_E1 s i w hs hi h
  · exact len_ED s i w hs hi h
  · exact len_F0 s i w hs hi h
  · exact len_F1 s i w hs hi h
  · exact len_F4 s i w hs hi h
end Go.Proofs.Qxb6613227aDoor
