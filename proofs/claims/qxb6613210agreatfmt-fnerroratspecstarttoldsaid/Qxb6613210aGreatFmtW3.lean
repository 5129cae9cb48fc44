import Derived.Test.Qxb6613210aGreatFmtW1
import Derived.Deep.Light
namespace Go.Proofs.Qxb6613210aGreatFmt
open Go.RowKit Pl
abbrev pdS : ByteArray := { data := #[112, 115, 101, 117, 100, 111, 45, 100, 101, 118, 105, 99, 101] }

theorem extract_upto (s : ByteArray) (k : Nat) : (s.extract 0 k).toList = s.data.toList.take k := by
  rw [ByteArray.toList_eq, ByteArray.data_extract]; simp
theorem beq_prefix (l p : List UInt8) : (l.take p.length == p) = p.isPrefixOf l := by
  rw [Bool.eq_iff_iff, beq_iff_eq, List.isPrefixOf_iff_prefix, List.prefix_iff_eq_take]
  exact ⟨fun h => h.symm, fun h => h.symm⟩
set_option maxHeartbeats 400000 in
theorem begins_any (s : ByteArray) (w : World) (hs : s.size ≤ 1048576) :
    Calls Tryz.prog 25 #[.string s, .string pdS] w fun e w' => e = .returned (.bool (List.isPrefixOf [112, 115, 101, 117, 100, 111, 45, 100, 101, 118, 105, 99, 101] s.data.toList)) ∧ w' = w := by
  go_enter Tryz.func25, Tryz.ntmps25
  go_wp2
  · go_ret
    refine ⟨?_, rfl⟩
    rw [← beq_prefix]
    show Ending.returned (Value.bool ((s.extract 0 13).toList == [112, 115, 101, 117, 100, 111, 45, 100, 101, 118, 105, 99, 101])) = _
    rw [extract_upto]
    rfl
  · rename_i h
    go_ret
    refine ⟨?_, rfl⟩
    have : List.isPrefixOf [112, 115, 101, 117, 100, 111, 45, 100, 101, 118, 105, 99, 101] s.data.toList = false := by
      rw [Bool.eq_false_iff]
      intro hp
      have := (List.isPrefixOf_iff_prefix.1 hp).length_le
      rw [size_list] at this
      simp at this
      omega
    rw [this]
    rfl
set_option maxHeartbeats 1000000 in
theorem keyword_any (s : ByteArray) (w : World) :
    Calls Tryz.prog 26 #[.string s] w fun e w' => e = .returned (.int .i64 (keyTok s.toList)) ∧ w' = w := by
  go_enter Tryz.func26, Tryz.ntmps26
  go_wp2
  all_goals
    go_ret
    refine ⟨ret_int ?_, rfl⟩
    go_light
    first
    | (simp only [keyTok, *, Bool.false_eq_true, if_true, if_false]; done)
    | (exfalso; simp_all only [Bool.false_eq_true])
end Go.Proofs.Qxb6613210aGreatFmt
