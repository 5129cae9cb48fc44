import Derived.Test.Qxb6613210aGreatFmtChecked
import Derived.Test.Qxb6613210aGreatFmtPlain
import Derived.WalkKit
import Derived.WalkSpells
namespace Go.Proofs.Qxb6613210aGreatFmt
open Go.RowKit Pl

theorem bool_ext {a b : Bool} (h : a = true ↔ b = true) : Ending.returned (.bool a) = Ending.returned (.bool b) := by
  rw [Bool.eq_iff_iff.2 h]
theorem ret_int {k : IntKind} {a b : Int} (h : a = b) : Ending.returned (.int k a) = .returned (.int k b) := by rw [h]

set_option maxHeartbeats 400000 in
theorem let_any (c : UInt8) (w : World) :
    Calls Tryz.prog 24 #[.int .u8 c.toNat] w fun e w' => e = .returned (.bool (isLet c)) ∧ w' = w := by
  go_enter Tryz.func24, Tryz.ntmps24
  go_wp2
  all_goals
    go_ret
    exact ⟨bool_ext (by simp [isLet]; omega), rfl⟩
set_option maxHeartbeats 400000 in
theorem let2_any (c : UInt8) (w : World) :
    Calls Tryz.prog 43 #[.int .u8 c.toNat] w fun e w' => e = .returned (.bool (isLet c)) ∧ w' = w := by
  go_enter Tryz.func43, Tryz.ntmps43
  go_wp2
  all_goals
    go_ret
    exact ⟨bool_ext (by simp [isLet]; omega), rfl⟩
set_option maxHeartbeats 400000 in
theorem dig_any (c : UInt8) (w : World) :
    Calls Tryz.prog 27 #[.int .u8 c.toNat] w fun e w' => e = .returned (.bool (isDig c)) ∧ w' = w := by
  go_enter Tryz.func27, Tryz.ntmps27
  go_wp2
  all_goals
    go_ret
    exact ⟨bool_ext (by simp [isDig]; omega), rfl⟩
set_option maxHeartbeats 400000 in
theorem dig2_any (c : UInt8) (w : World) :
    Calls Tryz.prog 45 #[.int .u8 c.toNat] w fun e w' => e = .returned (.bool (isDig c)) ∧ w' = w := by
  go_enter Tryz.func45, Tryz.ntmps45
  go_wp2
  all_goals
    go_ret
    exact ⟨bool_ext (by simp [isDig]; omega), rfl⟩
set_option maxHeartbeats 400000 in
theorem hex_any (c : UInt8) (w : World) :
    Calls Tryz.prog 35 #[.int .u8 c.toNat] w fun e w' => e = .returned (.int .i64 (hexV c)) ∧ w' = w := by
  have hc := c.toNat_lt
  go_enter Tryz.func35, Tryz.ntmps35
  go_wp2
  all_goals
    go_ret
    refine ⟨ret_int ?_, rfl⟩
    unfold hexV
    (repeat' split) <;> omega

set_option maxHeartbeats 400000 in
theorem holdsNewline_any (s : ByteArray) (w : World) (hs : s.size ≤ 1048576) :
    Calls Tryz.prog 6 #[.string s] w fun e w' => (e = .returned (.bool false) ∨ e = .returned (.bool true)) ∧ w' = w := by
  go_enter Tryz.func6, Tryz.ntmps6
  go_wp2
  go_loop [3] (fun i => ∃ k : Nat, k ≤ s.size ∧ i = .int .i64 k) (fun i => s.size - (intOf i).toNat)
  case atStart => exact ⟨0, Nat.zero_le _, rfl⟩
  case round =>
    obtain ⟨k, hk, rfl⟩ := hrel
    by_cases hlt : k < s.size
    · go_wp2
      · go_ret
        exact ⟨Or.inr rfl, rfl⟩
      · go_round
        case rel => exact ⟨k + 1, by omega, by go_num⟩
        case measure => simp [intOf]; omega
    · go_wp2
      go_ret
      exact ⟨Or.inl rfl, rfl⟩
end Go.Proofs.Qxb6613210aGreatFmt
