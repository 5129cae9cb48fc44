import Derived.Test.Qxb6613210aGreatFmtW9
import Derived.Test.Qxb6613210aGreatFmtPlain3
import Derived.Lib.ConvBytes
import Derived.Laws.Closers25b
import Derived.BigCall
import Derived.BigGuard
namespace Go.Proofs.Qxb6613210aGreatFmt
open Go.RowKit Pl

/-- c or 0x20, at a hexadecimal letter. -/
theorem lower_hi (c : UInt8) (h : 65 ≤ c.toNat ∧ c.toNat ≤ 70) : bits .or .u8 (c.toNat : Int) 32 = (c.toNat : Int) + 32 := by
  have : c.toNat = 65 ∨ c.toNat = 66 ∨ c.toNat = 67 ∨ c.toNat = 68 ∨ c.toNat = 69 ∨ c.toNat = 70 := by omega
  rcases this with e | e | e | e | e | e <;> rw [e] <;> decide
theorem lower_lo (c : UInt8) (h : 97 ≤ c.toNat ∧ c.toNat ≤ 102) : bits .or .u8 (c.toNat : Int) 32 = (c.toNat : Int) := by
  have : c.toNat = 97 ∨ c.toNat = 98 ∨ c.toNat = 99 ∨ c.toNat = 100 ∨ c.toNat = 101 ∨ c.toNat = 102 := by omega
  rcases this with e | e | e | e | e | e <;> rw [e] <;> decide
set_option maxHeartbeats 400000 in
theorem lower_any (c x : Int) (h : bits .or .u8 c 32 = x) (w : World) :
    Calls Tryz.prog 76 #[.int .u8 c] w fun e w' => e = .returned (.int .u8 x) ∧ w' = w := by
  go_enter Tryz.func76, Tryz.ntmps76
  go_wp2
  go_ret
  exact ⟨rfl, rfl⟩
theorem below_bytes (w : World) (s : ByteArray) : Below w.heap.size w (Lib.bytesWorld w 5 s) :=
  ⟨rfl, rfl, rfl, by rw [Lib.bytesWorld_size]; omega, fun k hk => Lib.bytesWorld_at_old w 5 s k hk⟩
/-- A digit's value, by the byte's kind. -/
theorem hexV_cases (c : UInt8) (h : 0 ≤ hexV c) : (48 ≤ c.toNat ∧ c.toNat ≤ 57 ∧ hexV c = (c.toNat : Int) - 48) ∨ (97 ≤ c.toNat ∧ c.toNat ≤ 102 ∧ hexV c = (c.toNat : Int) - 87) ∨ (65 ≤ c.toNat ∧ c.toNat ≤ 70 ∧ hexV c = (c.toNat : Int) - 55) := by
  unfold hexV at h ⊢
  (repeat' split) <;> (repeat' split at h) <;> omega

set_option maxHeartbeats 32000000 in
set_option maxRecDepth 100000 in
theorem parseIn8 (t : ByteArray) (hne : t.size ≠ 0) (hmax : t.size ≤ 1048576) (w : World) (hd : ∀ (k : Nat) (h : k < t.size), 0 ≤ hexV t[k] ∧ hexV t[k] < 8) :
    Calls Tryz.prog 69 #[.string t, .int .i64 8, .int .i64 64] w fun e w' => ((valN 8 t.data.toList ≤ 18446744073709551615 ∧ ∃ m : Nat, m ≤ 18446744073709551615 ∧ e = .returned (.tuple #[.int .u64 m, .nilIface])) ∨ (18446744073709551615 < valN 8 t.data.toList ∧ e = .returned (.tuple #[.int .u64 18446744073709551615, .iface 120 (.int .i64 1)]))) ∧ Below w.heap.size w w' := by
  have hemp : t.toList.isEmpty = false := by
    rw [← decide_eq_emptyBytes]
    exact decide_eq_false (fun h => hne (by rw [h]; rfl))
  have hcv := Lib.run_convert_string_bytes (P := Tryz.prog) w 9 66 5 t (u := .string) Tryz.underlying9 Tryz.underlying66 Tryz.underlying5
  have hB : ∀ j, j < t.size → (Lib.bytesWorld w 5 t).cell? ⟨w.heap.size, j, none⟩ = some (.int .u8 (t.data.toList.getD j 0).toNat) := fun j hj => Lib.bytesWorld_cell w 5 t j hj
  have HBW : Hid (Below w.heap.size w (Lib.bytesWorld w 5 t)) := below_bytes w t
  obtain ⟨W1, hW1⟩ : ∃ W1, W1 = Lib.bytesWorld w 5 t := ⟨_, rfl⟩
  rw [← hW1] at hcv hB HBW
  clear hW1
  have HB : Hid (∀ j, j < t.size → W1.cell? ⟨w.heap.size, j, none⟩ = some (.int .u8 (t.data.toList.getD j 0).toNat)) := hB
  clear hB
  have HD : Hid (∀ (k : Nat) (h : k < t.size), 0 ≤ hexV t[k] ∧ hexV t[k] < 8) := hd
  clear hd
  have HZ : Hid (t.data.toList.length = t.size) := size_list t
  have hmv : IntKind.u64.wrap (IntKind.u64.wrap 18446744073709551616 - 1) = 18446744073709551615 := by
    rw [IntKind.wrap_u64, IntKind.wrap_u64]
    decide
  go_enter Tryz.func69, Tryz.ntmps69
  go_wp2
  go_loop [12, 13, 16, 101] (fun vu vn _ vi => ∃ (k : Nat) (a : Int), vu = .bool false ∧ vn = .int .u64 a ∧ vi = .int .i64 k ∧ k ≤ t.size ∧ 0 ≤ a ∧ a ≤ 18446744073709551615 ∧ Hid (a = (valN 8 (t.data.toList.take k) : Nat)))
    (fun _ _ _ vi => t.size - (intOf vi).toNat)
  case atStart => exact ⟨0, 0, rfl, rfl, rfl, by omega, by omega, by omega, rfl⟩
  case round =>
    obtain ⟨k, a, rfl, rfl, rfl, hk, a0, a1, HA⟩ := hrel
    by_cases hkn : k < t.size
    · have hc := HB.out k hkn
      rw [getD_list t k hkn] at hc
      obtain ⟨d0, d1⟩ := HD.out k hkn
      have HS : Hid ((valN 8 (t.data.toList.take (k + 1)) : Int) = a * 8 + hexV t[k]) := by
        unfold Hid; rw [take_snoc t k hkn, valN_snoc]
        have := HA.out
        omega
      have HL : Hid (valN 8 (t.data.toList.take (k + 1)) ≤ valN 8 t.data.toList) := valN_take_le _ (by omega) t.data.toList (k + 1)
      have hcs := hexV_cases t[k] d0
      generalize t[k] = c at hc hcs d0 d1 HS
      have hc256 : c.toNat < 256 := c.toNat_lt
      obtain ⟨d, hd⟩ : ∃ d : Int, hexV c = d := ⟨_, rfl⟩
      rw [hd] at hcs d0 d1 HS
      clear hd
      have hcs2 : 48 ≤ c.toNat ∧ c.toNat ≤ 57 ∧ d = (c.toNat : Int) - 48 := by omega
      clear hcs
      obtain ⟨g0, g1, rfl⟩ := hcs2
      have h95 : ((c.toNat : Int) == 95) = false := by rw [beq_eq_false_iff_ne]; omega
      have g0' : (48 : Int) ≤ (c.toNat : Int) := by omega
      have g1' : (c.toNat : Int) ≤ 57 := by omega
      have d1' : (c.toNat : Int) - 48 < 8 := by omega
      clear g0 g1 d0 d1
      by_cases hcut : 2305843009213693952 ≤ a
      · clear HA
        go_wp2_with (fail)
        all_goals first | (exfalso; omega) | skip
        go_ret2
        exact ⟨Or.inr ⟨by have := HS.out; have := HL.out; omega, rfl⟩, HBW.out⟩
      · by_cases hov : a * 8 + ((c.toNat : Int) - 48) ≤ 18446744073709551615
        · have icut : a < 2305843009213693952 := by omega
          clear hcut
          have iov : a * 8 + ((c.toNat : Int) - 48) < 18446744073709551616 := by omega
          go_wp2_with (fail)
          all_goals first | (exfalso; omega) | skip
          first
          | exact ⟨⟨k + 1, a * 8 + ((c.toNat : Int) - 48), rfl, (by first | rfl | (congr 1; omega)), (by go_num), by omega, by omega, by omega, by unfold Hid; have := HS.out; omega⟩, by simp [intOf]; omega⟩
          | (go_round
             case rel => exact ⟨k + 1, a * 8 + ((c.toNat : Int) - 48), rfl, (by first | rfl | (congr 1; omega)), (by go_num), by omega, by omega, by omega, by unfold Hid; have := HS.out; omega⟩
             case measure => simp [intOf]; omega)
        · exfalso; omega
    · have HE : Hid (a = (valN 8 t.data.toList : Nat)) := by
        unfold Hid; rw [HA.out, List.take_of_length_le (by rw [HZ.out]; omega)]
      obtain ⟨m, rfl⟩ : ∃ m : Nat, a = m := ⟨a.toNat, by omega⟩
      go_wp2
      go_ret2
      exact ⟨Or.inl ⟨by have := HE.out; omega, m, by omega, rfl⟩, HBW.out⟩
set_option maxHeartbeats 32000000 in
set_option maxRecDepth 100000 in
theorem parseIn10 (t : ByteArray) (hne : t.size ≠ 0) (hmax : t.size ≤ 1048576) (w : World) (hd : ∀ (k : Nat) (h : k < t.size), 0 ≤ hexV t[k] ∧ hexV t[k] < 10) :
    Calls Tryz.prog 69 #[.string t, .int .i64 10, .int .i64 64] w fun e w' => ((valN 10 t.data.toList ≤ 18446744073709551615 ∧ ∃ m : Nat, m ≤ 18446744073709551615 ∧ e = .returned (.tuple #[.int .u64 m, .nilIface])) ∨ (18446744073709551615 < valN 10 t.data.toList ∧ e = .returned (.tuple #[.int .u64 18446744073709551615, .iface 120 (.int .i64 1)]))) ∧ Below w.heap.size w w' := by
  have hemp : t.toList.isEmpty = false := by
    rw [← decide_eq_emptyBytes]
    exact decide_eq_false (fun h => hne (by rw [h]; rfl))
  have hcv := Lib.run_convert_string_bytes (P := Tryz.prog) w 9 66 5 t (u := .string) Tryz.underlying9 Tryz.underlying66 Tryz.underlying5
  have hB : ∀ j, j < t.size → (Lib.bytesWorld w 5 t).cell? ⟨w.heap.size, j, none⟩ = some (.int .u8 (t.data.toList.getD j 0).toNat) := fun j hj => Lib.bytesWorld_cell w 5 t j hj
  have HBW : Hid (Below w.heap.size w (Lib.bytesWorld w 5 t)) := below_bytes w t
  obtain ⟨W1, hW1⟩ : ∃ W1, W1 = Lib.bytesWorld w 5 t := ⟨_, rfl⟩
  rw [← hW1] at hcv hB HBW
  clear hW1
  have HB : Hid (∀ j, j < t.size → W1.cell? ⟨w.heap.size, j, none⟩ = some (.int .u8 (t.data.toList.getD j 0).toNat)) := hB
  clear hB
  have HD : Hid (∀ (k : Nat) (h : k < t.size), 0 ≤ hexV t[k] ∧ hexV t[k] < 10) := hd
  clear hd
  have HZ : Hid (t.data.toList.length = t.size) := size_list t
  have hmv : IntKind.u64.wrap (IntKind.u64.wrap 18446744073709551616 - 1) = 18446744073709551615 := by
    rw [IntKind.wrap_u64, IntKind.wrap_u64]
    decide
  go_enter Tryz.func69, Tryz.ntmps69
  go_wp2
  go_loop [12, 13, 16, 101] (fun vu vn _ vi => ∃ (k : Nat) (a : Int), vu = .bool false ∧ vn = .int .u64 a ∧ vi = .int .i64 k ∧ k ≤ t.size ∧ 0 ≤ a ∧ a ≤ 18446744073709551615 ∧ Hid (a = (valN 10 (t.data.toList.take k) : Nat)))
    (fun _ _ _ vi => t.size - (intOf vi).toNat)
  case atStart => exact ⟨0, 0, rfl, rfl, rfl, by omega, by omega, by omega, rfl⟩
  case round =>
    obtain ⟨k, a, rfl, rfl, rfl, hk, a0, a1, HA⟩ := hrel
    by_cases hkn : k < t.size
    · have hc := HB.out k hkn
      rw [getD_list t k hkn] at hc
      obtain ⟨d0, d1⟩ := HD.out k hkn
      have HS : Hid ((valN 10 (t.data.toList.take (k + 1)) : Int) = a * 10 + hexV t[k]) := by
        unfold Hid; rw [take_snoc t k hkn, valN_snoc]
        have := HA.out
        omega
      have HL : Hid (valN 10 (t.data.toList.take (k + 1)) ≤ valN 10 t.data.toList) := valN_take_le _ (by omega) t.data.toList (k + 1)
      have hcs := hexV_cases t[k] d0
      generalize t[k] = c at hc hcs d0 d1 HS
      have hc256 : c.toNat < 256 := c.toNat_lt
      obtain ⟨d, hd⟩ : ∃ d : Int, hexV c = d := ⟨_, rfl⟩
      rw [hd] at hcs d0 d1 HS
      clear hd
      have hcs2 : 48 ≤ c.toNat ∧ c.toNat ≤ 57 ∧ d = (c.toNat : Int) - 48 := by omega
      clear hcs
      obtain ⟨g0, g1, rfl⟩ := hcs2
      have h95 : ((c.toNat : Int) == 95) = false := by rw [beq_eq_false_iff_ne]; omega
      have g0' : (48 : Int) ≤ (c.toNat : Int) := by omega
      have g1' : (c.toNat : Int) ≤ 57 := by omega
      have d1' : (c.toNat : Int) - 48 < 10 := by omega
      clear g0 g1 d0 d1
      by_cases hcut : 1844674407370955162 ≤ a
      · clear HA
        go_wp2_with (fail)
        all_goals first | (exfalso; omega) | skip
        go_ret2
        exact ⟨Or.inr ⟨by have := HS.out; have := HL.out; omega, rfl⟩, HBW.out⟩
      · by_cases hov : a * 10 + ((c.toNat : Int) - 48) ≤ 18446744073709551615
        · have icut : a < 1844674407370955162 := by omega
          clear hcut
          have iov : a * 10 + ((c.toNat : Int) - 48) < 18446744073709551616 := by omega
          go_wp2_with (fail)
          all_goals first | (exfalso; omega) | skip
          first
          | exact ⟨⟨k + 1, a * 10 + ((c.toNat : Int) - 48), rfl, (by first | rfl | (congr 1; omega)), (by go_num), by omega, by omega, by omega, by unfold Hid; have := HS.out; omega⟩, by simp [intOf]; omega⟩
          | (go_round
             case rel => exact ⟨k + 1, a * 10 + ((c.toNat : Int) - 48), rfl, (by first | rfl | (congr 1; omega)), (by go_num), by omega, by omega, by omega, by unfold Hid; have := HS.out; omega⟩
             case measure => simp [intOf]; omega)
        · have icut : a < 1844674407370955162 := by omega
          have iov : 18446744073709551616 ≤ a * 10 + ((c.toNat : Int) - 48) := by omega
          have hwr : IntKind.u64.wrap (a * 10 + ((c.toNat : Int) - 48)) = a * 10 + ((c.toNat : Int) - 48) - 18446744073709551616 := by
            rw [IntKind.wrap_u64]
            omega
          clear hcut
          go_wp2_with (fail)
          go_ret2
          exact ⟨Or.inr ⟨by have := HS.out; have := HL.out; omega, rfl⟩, HBW.out⟩
    · have HE : Hid (a = (valN 10 t.data.toList : Nat)) := by
        unfold Hid; rw [HA.out, List.take_of_length_le (by rw [HZ.out]; omega)]
      obtain ⟨m, rfl⟩ : ∃ m : Nat, a = m := ⟨a.toNat, by omega⟩
      go_wp2
      go_ret2
      exact ⟨Or.inl ⟨by have := HE.out; omega, m, by omega, rfl⟩, HBW.out⟩
set_option maxHeartbeats 32000000 in
set_option maxRecDepth 100000 in
theorem parseIn16 (t : ByteArray) (hne : t.size ≠ 0) (hmax : t.size ≤ 1048576) (w : World) (hd : ∀ (k : Nat) (h : k < t.size), 0 ≤ hexV t[k] ∧ hexV t[k] < 16) :
    Calls Tryz.prog 69 #[.string t, .int .i64 16, .int .i64 64] w fun e w' => ((valN 16 t.data.toList ≤ 18446744073709551615 ∧ ∃ m : Nat, m ≤ 18446744073709551615 ∧ e = .returned (.tuple #[.int .u64 m, .nilIface])) ∨ (18446744073709551615 < valN 16 t.data.toList ∧ e = .returned (.tuple #[.int .u64 18446744073709551615, .iface 120 (.int .i64 1)]))) ∧ Below w.heap.size w w' := by
  have hemp : t.toList.isEmpty = false := by
    rw [← decide_eq_emptyBytes]
    exact decide_eq_false (fun h => hne (by rw [h]; rfl))
  have hcv := Lib.run_convert_string_bytes (P := Tryz.prog) w 9 66 5 t (u := .string) Tryz.underlying9 Tryz.underlying66 Tryz.underlying5
  have hB : ∀ j, j < t.size → (Lib.bytesWorld w 5 t).cell? ⟨w.heap.size, j, none⟩ = some (.int .u8 (t.data.toList.getD j 0).toNat) := fun j hj => Lib.bytesWorld_cell w 5 t j hj
  have HBW : Hid (Below w.heap.size w (Lib.bytesWorld w 5 t)) := below_bytes w t
  obtain ⟨W1, hW1⟩ : ∃ W1, W1 = Lib.bytesWorld w 5 t := ⟨_, rfl⟩
  rw [← hW1] at hcv hB HBW
  clear hW1
  have HB : Hid (∀ j, j < t.size → W1.cell? ⟨w.heap.size, j, none⟩ = some (.int .u8 (t.data.toList.getD j 0).toNat)) := hB
  clear hB
  have HD : Hid (∀ (k : Nat) (h : k < t.size), 0 ≤ hexV t[k] ∧ hexV t[k] < 16) := hd
  clear hd
  have HZ : Hid (t.data.toList.length = t.size) := size_list t
  have hmv : IntKind.u64.wrap (IntKind.u64.wrap 18446744073709551616 - 1) = 18446744073709551615 := by
    rw [IntKind.wrap_u64, IntKind.wrap_u64]
    decide
  go_enter Tryz.func69, Tryz.ntmps69
  go_wp2
  go_loop [12, 13, 16, 101] (fun vu vn _ vi => ∃ (k : Nat) (a : Int), vu = .bool false ∧ vn = .int .u64 a ∧ vi = .int .i64 k ∧ k ≤ t.size ∧ 0 ≤ a ∧ a ≤ 18446744073709551615 ∧ Hid (a = (valN 16 (t.data.toList.take k) : Nat)))
    (fun _ _ _ vi => t.size - (intOf vi).toNat)
  case atStart => exact ⟨0, 0, rfl, rfl, rfl, by omega, by omega, by omega, rfl⟩
  case round =>
    obtain ⟨k, a, rfl, rfl, rfl, hk, a0, a1, HA⟩ := hrel
    by_cases hkn : k < t.size
    · have hc := HB.out k hkn
      rw [getD_list t k hkn] at hc
      obtain ⟨d0, d1⟩ := HD.out k hkn
      have HS : Hid ((valN 16 (t.data.toList.take (k + 1)) : Int) = a * 16 + hexV t[k]) := by
        unfold Hid; rw [take_snoc t k hkn, valN_snoc]
        have := HA.out
        omega
      have HL : Hid (valN 16 (t.data.toList.take (k + 1)) ≤ valN 16 t.data.toList) := valN_take_le _ (by omega) t.data.toList (k + 1)
      have hcs := hexV_cases t[k] d0
      generalize t[k] = c at hc hcs d0 d1 HS
      have hc256 : c.toNat < 256 := c.toNat_lt
      obtain ⟨d, hd⟩ : ∃ d : Int, hexV c = d := ⟨_, rfl⟩
      rw [hd] at hcs d0 d1 HS
      clear hd
      rcases hcs with ⟨g0, g1, rfl⟩ | ⟨g0, g1, rfl⟩ | ⟨g0, g1, rfl⟩
      · have h95 : ((c.toNat : Int) == 95) = false := by rw [beq_eq_false_iff_ne]; omega
        have g0' : (48 : Int) ≤ (c.toNat : Int) := by omega
        have g1' : (c.toNat : Int) ≤ 57 := by omega
        have d1' : (c.toNat : Int) - 48 < 16 := by omega
        clear g0 g1 d0 d1
        by_cases hcut : 1152921504606846976 ≤ a
        · clear HA
          go_wp2_with (fail)
          all_goals first | (exfalso; omega) | skip
          go_ret2
          exact ⟨Or.inr ⟨by have := HS.out; have := HL.out; omega, rfl⟩, HBW.out⟩
        · by_cases hov : a * 16 + ((c.toNat : Int) - 48) ≤ 18446744073709551615
          · have icut : a < 1152921504606846976 := by omega
            clear hcut
            have iov : a * 16 + ((c.toNat : Int) - 48) < 18446744073709551616 := by omega
            go_wp2_with (fail)
            all_goals first | (exfalso; omega) | skip
            first
            | exact ⟨⟨k + 1, a * 16 + ((c.toNat : Int) - 48), rfl, (by first | rfl | (congr 1; omega)), (by go_num), by omega, by omega, by omega, by unfold Hid; have := HS.out; omega⟩, by simp [intOf]; omega⟩
            | (go_round
               case rel => exact ⟨k + 1, a * 16 + ((c.toNat : Int) - 48), rfl, (by first | rfl | (congr 1; omega)), (by go_num), by omega, by omega, by omega, by unfold Hid; have := HS.out; omega⟩
               case measure => simp [intOf]; omega)
          · exfalso; omega
      · have HLW : Hid (bits .or .u8 (c.toNat : Int) 32 = (c.toNat : Int)) := lower_lo c ⟨g0, g1⟩
        have h95 : ((c.toNat : Int) == 95) = false := by rw [beq_eq_false_iff_ne]; omega
        have g0' : (97 : Int) ≤ (c.toNat : Int) := by omega
        have g1' : (c.toNat : Int) ≤ 102 := by omega
        clear g0 g1 d0 d1
        by_cases hcut : 1152921504606846976 ≤ a
        · clear HA
          go_wp2_with (go_at_call 76; refine (lower_any (c.toNat : Int) (c.toNat : Int) HLW.out _).mono ?_; rintro e w' ⟨rfl, hw⟩; replace hw := hw.symm; subst hw)
          all_goals first | (exfalso; omega) | skip
          go_ret2
          exact ⟨Or.inr ⟨by have := HS.out; have := HL.out; omega, rfl⟩, HBW.out⟩
        · by_cases hov : a * 16 + ((c.toNat : Int) - 97 + 10) ≤ 18446744073709551615
          · have icut : a < 1152921504606846976 := by omega
            clear hcut
            have iov : a * 16 + ((c.toNat : Int) - 97 + 10) < 18446744073709551616 := by omega
            go_wp2_with (go_at_call 76; refine (lower_any (c.toNat : Int) (c.toNat : Int) HLW.out _).mono ?_; rintro e w' ⟨rfl, hw⟩; replace hw := hw.symm; subst hw)
            all_goals first | (exfalso; omega) | skip
            first
            | exact ⟨⟨k + 1, a * 16 + ((c.toNat : Int) - 97 + 10), rfl, (by first | rfl | (congr 1; omega)), (by go_num), by omega, by omega, by omega, by unfold Hid; have := HS.out; omega⟩, by simp [intOf]; omega⟩
            | (go_round
               case rel => exact ⟨k + 1, a * 16 + ((c.toNat : Int) - 97 + 10), rfl, (by first | rfl | (congr 1; omega)), (by go_num), by omega, by omega, by omega, by unfold Hid; have := HS.out; omega⟩
               case measure => simp [intOf]; omega)
          · exfalso; omega
      · have HLW : Hid (bits .or .u8 (c.toNat : Int) 32 = ((c.toNat : Int) + 32)) := lower_hi c ⟨g0, g1⟩
        have h95 : ((c.toNat : Int) == 95) = false := by rw [beq_eq_false_iff_ne]; omega
        have g0' : (65 : Int) ≤ (c.toNat : Int) := by omega
        have g1' : (c.toNat : Int) ≤ 70 := by omega
        clear g0 g1 d0 d1
        by_cases hcut : 1152921504606846976 ≤ a
        · clear HA
          go_wp2_with (go_at_call 76; refine (lower_any (c.toNat : Int) ((c.toNat : Int) + 32) HLW.out _).mono ?_; rintro e w' ⟨rfl, hw⟩; replace hw := hw.symm; subst hw)
          all_goals first | (exfalso; omega) | skip
          go_ret2
          exact ⟨Or.inr ⟨by have := HS.out; have := HL.out; omega, rfl⟩, HBW.out⟩
        · by_cases hov : a * 16 + ((c.toNat : Int) + 32 - 97 + 10) ≤ 18446744073709551615
          · have icut : a < 1152921504606846976 := by omega
            clear hcut
            have iov : a * 16 + ((c.toNat : Int) + 32 - 97 + 10) < 18446744073709551616 := by omega
            go_wp2_with (go_at_call 76; refine (lower_any (c.toNat : Int) ((c.toNat : Int) + 32) HLW.out _).mono ?_; rintro e w' ⟨rfl, hw⟩; replace hw := hw.symm; subst hw)
            all_goals first | (exfalso; omega) | skip
            first
            | exact ⟨⟨k + 1, a * 16 + ((c.toNat : Int) + 32 - 97 + 10), rfl, (by first | rfl | (congr 1; omega)), (by go_num), by omega, by omega, by omega, by unfold Hid; have := HS.out; omega⟩, by simp [intOf]; omega⟩
            | (go_round
               case rel => exact ⟨k + 1, a * 16 + ((c.toNat : Int) + 32 - 97 + 10), rfl, (by first | rfl | (congr 1; omega)), (by go_num), by omega, by omega, by omega, by unfold Hid; have := HS.out; omega⟩
               case measure => simp [intOf]; omega)
          · exfalso; omega
    · have HE : Hid (a = (valN 16 t.data.toList : Nat)) := by
        unfold Hid; rw [HA.out, List.take_of_length_le (by rw [HZ.out]; omega)]
      obtain ⟨m, rfl⟩ : ∃ m : Nat, a = m := ⟨a.toNat, by omega⟩
      go_wp2
      go_ret2
      exact ⟨Or.inl ⟨by have := HE.out; omega, m, by omega, rfl⟩, HBW.out⟩
end Go.Proofs.Qxb6613210aGreatFmt
