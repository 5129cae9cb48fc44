import Derived.Test.Qxb6613210aGreatFmtW1
namespace Go.Proofs.Qxb6613210aGreatFmt
open Go.RowKit Pl

theorem isBl_iff (c : UInt8) : isBl c = true ↔ (c.toNat : Int) = 32 ∨ (c.toNat : Int) = 9 := by
  simp [isBl, ← UInt8.toNat_inj]; omega
set_option maxHeartbeats 400000 in
theorem skipBlanks_any (s : ByteArray) (w : World) (hs : s.size ≤ 1048576) :
    Calls Tryz.prog 11 #[.string s] w fun e w' => e = .returned (.string (s.extract (runEnd isBl s.data.toList 0) s.size)) ∧ w' = w := by
  have hsz := size_list s
  have HZ : Hid (s.data.toList.length = s.size) := hsz
  go_enter Tryz.func11, Tryz.ntmps11
  clear hsz
  go_wp2
  go_loop [3] (fun i => ∃ k : Nat, k ≤ s.size ∧ i = .int .i64 k ∧ Hid (runEnd isBl s.data.toList 0 = runEnd isBl s.data.toList k)) (fun i => s.size - (intOf i).toNat)
  case atStart => exact ⟨0, Nat.zero_le _, rfl, rfl⟩
  case round =>
    obtain ⟨k, hk, rfl, hr⟩ := hrel
    by_cases hlt : k < s.size
    · cases hb : isBl s[k] with
      | true =>
        have h1 := (isBl_iff s[k]).1 hb
        have hr2 : Hid (runEnd isBl s.data.toList 0 = runEnd isBl s.data.toList (k + 1)) := by
          unfold Hid
          rw [hr.out]; exact runEnd_step _ _ _ (by rw [HZ.out]; exact hlt) (by rw [getElem_list s k hlt]; exact hb)
        clear hb hr
        rcases h1 with h1 | h1
        all_goals
          go_wp2
          go_round
          case rel => exact ⟨k + 1, by omega, by go_num, hr2⟩
          case measure => simp [intOf]; omega
      | false =>
        have h1 : ¬ ((s[k].toNat : Int) = 32) := fun h => by have := (isBl_iff s[k]).2 (Or.inl h); rw [hb] at this; cases this
        have h2 : ¬ ((s[k].toNat : Int) = 9) := fun h => by have := (isBl_iff s[k]).2 (Or.inr h); rw [hb] at this; cases this
        have hr2 : Hid (runEnd isBl s.data.toList 0 = k) := by
          unfold Hid
          rw [hr.out]; exact runEnd_stop _ _ _ (by rw [HZ.out]; exact hlt) (by rw [getElem_list s k hlt]; exact hb)
        clear hb hr
        have h1' : (((s[k].toNat : Int)) == 32) = false := by simpa using h1
        have h2' : (((s[k].toNat : Int)) == 9) = false := by simpa using h2
        go_wp2
        go_ret
        rw [hr2.out]
        exact ⟨rfl, rfl⟩
    · have hr2 : Hid (runEnd isBl s.data.toList 0 = k) := by
        unfold Hid
        rw [hr.out]; exact runEnd_end _ _ _ (by rw [HZ.out]; omega)
      go_wp2
      go_ret
      rw [hr2.out]
      exact ⟨rfl, rfl⟩
end Go.Proofs.Qxb6613210aGreatFmt
