import Derived.Test.Qxb6612396aDoorPlain
namespace Go.Proofs.Qxb6612396aDoor
open Go.RowKit
set_option maxHeartbeats 1000000 in
theorem lower_any (c : UInt8) (w : World) : Calls Tryd.prog 13 #[.int .u8 c.toNat] w fun e w' => e = .returned (.int .u8 (low c.toNat)) ∧ w' = w := by
  have hc := c.toNat_lt
  unfold low
  by_cases h : 65 ≤ c.toNat ∧ c.toNat ≤ 90
  · rw [if_pos h]
    obtain ⟨h1, h2⟩ := h
    have h1' : (65 : Int) ≤ (c.toNat : Int) := by omega
    have h2' : (c.toNat : Int) ≤ 90 := by omega
    go_enter Tryd.func13, Tryd.ntmps13
    go_wp2
    go_ret
    exact ⟨rfl, rfl⟩
  · rw [if_neg h]
    by_cases h1 : (65 : Int) ≤ (c.toNat : Int)
    · have h2 : ¬ (c.toNat : Int) ≤ 90 := by omega
      go_enter Tryd.func13, Tryd.ntmps13
      go_wp2
      go_ret
      exact ⟨rfl, rfl⟩
    · go_enter Tryd.func13, Tryd.ntmps13
      go_wp2
      go_ret
      exact ⟨rfl, rfl⟩
set_option maxRecDepth 100000 in
set_option maxHeartbeats 1000000 in
theorem zzbytes_any (kd a b c : Int) (s t : ByteArray) (w : World) :
    Calls Tryd.prog 5 #[.int .u8 kd, .string s, .int .i64 a, .int .i64 b, .int .i64 c, .string t] w fun e w' => (∃ b, e = .returned (.bool b)) ∧ w' = w := by
  go_enter Tryd.func5, Tryd.ntmps5
  go_wp2
  all_goals
    go_ret
    exact ⟨⟨_, rfl⟩, rfl⟩
def Asc (s : ByteArray) : Prop := ∀ (j : Nat) (h : j < s.size), s[j].toNat < 128
set_option maxRecDepth 100000 in
set_option maxHeartbeats 1000000 in
theorem asciiOnly_any (s : ByteArray) (w : World) (hs : s.size ≤ 1048576) :
    Calls Tryd.prog 6 #[.string s] w fun e w' => (e = .returned (.bool false) ∨ (e = .returned (.bool true) ∧ Asc s)) ∧ w' = w := by
  go_enter Tryd.func6, Tryd.ntmps6
  go_wp2_with fail
  go_loop [3] (fun i => ∃ k : Nat, k ≤ s.size ∧ i = .int .i64 k ∧ Hid (∀ (j : Nat) (h : j < s.size), j < k → s[j].toNat < 128)) (fun i => s.size - (intOf i).toNat)
  case atStart => exact ⟨0, by omega, by go_num, fun j _ h => by omega⟩
  case round =>
    obtain ⟨k, hk, rfl, hr⟩ := hrel
    by_cases hlt : k < s.size
    · by_cases h128 : (128 : Int) ≤ (s[k].toNat : Int)
      · go_wp2
        go_ret
        exact ⟨Or.inl rfl, rfl⟩
      · have hr2 : Hid (∀ (j : Nat) (h : j < s.size), j < k + 1 → s[j].toNat < 128) := by
          intro j h hj
          by_cases e : j = k
          · subst e; omega
          · exact hr.out j h (by omega)
        go_wp2_with fail
        go_round
        case rel => exact ⟨k + 1, by omega, by go_num, hr2⟩
        case measure => simp [intOf]; omega
    · go_wp2
      go_ret
      exact ⟨Or.inr ⟨rfl, fun j h => hr.out j h (by omega)⟩, rfl⟩
end Go.Proofs.Qxb6612396aDoor
