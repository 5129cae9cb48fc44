import Derived.Test.Qxb6613210aGreatFmtW13
import Derived.Test.Qxb6613210aGreatFmtShelf
import Derived.Test.Qxb6613210aGreatFmtPlain3
import Derived.Deep.QuietTactic
import Derived.BigQuiet
namespace Go.Proofs.Qxb6613210aGreatFmt
open Go.RowKit Pl

theorem below_drewN {B : Nat} {a w : World} (h : Below B a w) (n : Nat) : Below B a (w.drewN n) := ⟨h.os, h.tape, h.output, h.size, h.block⟩
theorem bytes_ext {a b : ByteArray} (h : a.data.toList = b.data.toList) : a = b := by
  cases a; cases b; simp at h; rw [h]
theorem trim_eq (s : ByteArray) : (⟨(Lib.trimLeftS s.data.toList [32, 9]).toArray⟩ : ByteArray) = s.extract (runEnd isBl s.data.toList 0) s.size := by
  apply bytes_ext
  rw [extract_list, List.take_of_length_le (by rw [size_list]; omega), runEnd_zero]
  rfl
set_option maxHeartbeats 400000 in
theorem trimLeft_any (s : ByteArray) (w : World) :
    Calls Tryz.prog 51 #[.string s, .string ⟨#[32, 9]⟩] w fun e w' => e = .returned (.string (s.extract (runEnd isBl s.data.toList 0) s.size)) ∧ Below w.heap.size w w' := by
  rw [← trim_eq]
  exact Any.strings_TrimLeft_laid Tryz.lays161 (by kernel_rfl) s ⟨#[32, 9]⟩ w (by decide) (ascii_of_all (by decide))

/-- Does a token begin T? -/
def Ahead (T : ByteArray) : Prop := ∃ h : 0 < T.size, ((T[0].toNat : Int) != 35) = true
def NoAhead (T : ByteArray) : Prop := T.size = 0 ∨ ∃ h : 0 < T.size, ((T[0].toNat : Int) != 35) = false
theorem isEmpty_iff (T : ByteArray) : T.toList.isEmpty = decide (T.size = 0) := by
  rw [ByteArray.toList_eq, ← size_list]
  cases T.data.toList <;> rfl

set_option maxHeartbeats 1000000 in
theorem tokenAhead_yes (s : ByteArray) (T : ByteArray) (w : World) (hT : s.extract (runEnd isBl s.data.toList 0) s.size = T) (hA : Ahead T) :
    Calls Tryz.prog 39 #[.string s] w fun e w' => e = .returned (.tuple #[.string T, .bool true]) ∧ Below w.heap.size w w' := by
  have HC := trimLeft_any s w
  rw [hT] at HC
  have HC2 : Hid (Calls Tryz.prog 51 #[.string s, .string ⟨#[32, 9]⟩] w fun e w' => e = .returned (.string T) ∧ Below w.heap.size w w') := HC
  clear HC hT
  obtain ⟨h0, h1⟩ := hA
  have hne : T.toList.isEmpty = false := by rw [isEmpty_iff]; exact decide_eq_false (by omega)
  go_enter Tryz.func39, Tryz.ntmps39
  go_wp2_with fail
  refine HC2.out.mono ?_
  rintro e w1 ⟨rfl, hb⟩
  go_wp2_with fail
  go_quiet (fail)
  go_wp2
  go_ret2
  exact ⟨rfl, below_drewN hb _⟩
set_option maxHeartbeats 1000000 in
theorem tokenAhead_no (s : ByteArray) (T : ByteArray) (w : World) (hT : s.extract (runEnd isBl s.data.toList 0) s.size = T) (hA : NoAhead T) :
    Calls Tryz.prog 39 #[.string s] w fun e w' => e = .returned (.tuple #[.string T, .bool false]) ∧ Below w.heap.size w w' := by
  have HC := trimLeft_any s w
  rw [hT] at HC
  have HC2 : Hid (Calls Tryz.prog 51 #[.string s, .string ⟨#[32, 9]⟩] w fun e w' => e = .returned (.string T) ∧ Below w.heap.size w w') := HC
  clear HC hT
  rcases hA with h | ⟨h0, h1⟩
  · have hne : T.toList.isEmpty = true := by rw [isEmpty_iff]; exact decide_eq_true h
    clear h
    go_enter Tryz.func39, Tryz.ntmps39
    go_wp2_with fail
    refine HC2.out.mono ?_
    rintro e w1 ⟨rfl, hb⟩
    go_wp2_with fail
    go_quiet (fail)
    go_wp2
    go_ret2
    exact ⟨rfl, below_drewN hb _⟩
  · have hne : T.toList.isEmpty = false := by rw [isEmpty_iff]; exact decide_eq_false (by omega)
    go_enter Tryz.func39, Tryz.ntmps39
    go_wp2_with fail
    refine HC2.out.mono ?_
    rintro e w1 ⟨rfl, hb⟩
    go_wp2_with fail
    go_quiet (fail)
    go_wp2
    go_ret2
    exact ⟨rfl, below_drewN hb _⟩
end Go.Proofs.Qxb6613210aGreatFmt
