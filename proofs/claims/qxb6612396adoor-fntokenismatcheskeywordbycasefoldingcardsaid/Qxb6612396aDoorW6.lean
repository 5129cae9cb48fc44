import Derived.Test.Qxb6612396aDoorW5
namespace Go.Proofs.Qxb6612396aDoor
open Go.RowKit
set_option maxRecDepth 100000 in
set_option maxHeartbeats 2000000 in
theorem law_in (kd : Int) (s t : ByteArray) (a b d : Int) (w : World) (hT : Tab w) (h1 : (s.size : Int) ≤ 1048576) (h2 : (t.size : Int) ≤ 1048576) (h3 : (s.size : Int) + (t.size : Int) ≤ 1048576) :
    Calls Tryd.prog 3 #[.int .u8 kd, .string s, .int .i64 a, .int .i64 b, .int .i64 d, .string t] w fun e w' => e = .returned (.bool true) ∧ Below w.heap.size w w' := by
  have HT : Hid (Tab w) := hT
  clear hT
  go_enter Tryd.func3, Tryd.ntmps3
  go_wp2_with (go_at_call 5; refine (zzbytes_any _ _ _ _ _ _ _).mono ?_; rintro e w' ⟨⟨bb, rfl⟩, hw⟩; replace hw := hw.symm; subst hw)
  · go_ret
    exact ⟨rfl, Below.refl _ _⟩
  · refine (asciiOnly_any t w (by omega)).mono ?_
    rintro e w' ⟨(rfl | ⟨rfl, hA⟩), hw⟩
    · replace hw := hw.symm
      subst hw
      go_wp2
      go_ret
      exact ⟨rfl, Below.refl _ _⟩
    · replace hw := hw.symm
      subst hw
      have HC : Hid (Calls Tryd.prog 7 #[.int .u8 kd, .string s, .int .i64 a, .int .i64 b, .int .i64 d, .string t] w fun e w' => e = .returned (.bool ((kd == 1) && folds s.data.toList t.data.toList)) ∧ Below w.heap.size w w') := tokenIs_any kd s t a b d w HT.out (by omega) (by omega) hA
      clear hA
      go_wp2_with fail
      refine HC.out.mono ?_
      rintro e w1 ⟨rfl, hb⟩
      cases hk : (kd == 1) with
      | true =>
        go_wp2_with (go_at_call 8; refine (folds_any s t _ (by omega) (by omega)).mono ?_; rintro e w' ⟨rfl, hw⟩; replace hw := hw.symm; subst hw)
        go_ret
        refine ⟨?_, hb⟩
        first | rfl | (cases folds s.data.toList t.data.toList <;> rfl)
      | false =>
        go_wp2
        go_ret
        refine ⟨?_, hb⟩
        first | rfl | (cases folds s.data.toList t.data.toList <;> rfl)
set_option maxRecDepth 100000 in
set_option maxHeartbeats 2000000 in
theorem law_out (kd : Int) (s t : ByteArray) (a b d : Int) (w : World) (h : (1048576 : Int) < (s.size : Int) ∨ ((s.size : Int) ≤ 1048576 ∧ ((1048576 : Int) < (t.size : Int) ∨ ((t.size : Int) ≤ 1048576 ∧ (1048576 : Int) < (s.size : Int) + (t.size : Int))))) :
    Calls Tryd.prog 3 #[.int .u8 kd, .string s, .int .i64 a, .int .i64 b, .int .i64 d, .string t] w fun e w' => e = .returned (.bool true) ∧ Below w.heap.size w w' := by
  rcases h with h1 | ⟨h0, h1 | ⟨h2, h1⟩⟩
  all_goals
    go_enter Tryd.func3, Tryd.ntmps3
    go_wp2_with (go_at_call 5; refine (zzbytes_any _ _ _ _ _ _ _).mono ?_; rintro e w' ⟨⟨bb, rfl⟩, hw⟩; replace hw := hw.symm; subst hw)
    all_goals
      go_ret
      exact ⟨rfl, Below.refl _ _⟩
/-- THE LAW answers true at every input, where the tables are laid, and nothing that was there is turned. -/
theorem law_any (kd : Int) (s t : ByteArray) (a b d : Int) (w : World) (hT : Tab w) :
    Calls Tryd.prog 3 #[.int .u8 kd, .string s, .int .i64 a, .int .i64 b, .int .i64 d, .string t] w fun e w' => e = .returned (.bool true) ∧ Below w.heap.size w w' := by
  by_cases h : (s.size : Int) ≤ 1048576 ∧ (t.size : Int) ≤ 1048576 ∧ (s.size : Int) + (t.size : Int) ≤ 1048576
  · exact law_in kd s t a b d w hT h.1 h.2.1 h.2.2
  · exact law_out kd s t a b d w (by omega)
end Go.Proofs.Qxb6612396aDoor
