import Derived.Test.Qxb6613210aGreatFmtW10
namespace Go.Proofs.Qxb6613210aGreatFmt
open Go.RowKit Pl

set_option maxHeartbeats 1000000 in
set_option maxRecDepth 100000 in
theorem parse8 (t : ByteArray) (hne : t.size ≠ 0) (hmax : t.size ≤ 1048576) (w : World) (hd : ∀ (k : Nat) (h : k < t.size), 0 ≤ hexV t[k] ∧ hexV t[k] < 8) (te : TypeId) (pe : Value) (hv : w.cell? ⟨6, 0, none⟩ = some (.iface te pe)) :
    Calls Tryz.prog 55 #[.string t, .int .i64 8, .int .i64 64] w fun e w' => ((valN 8 t.data.toList ≤ 18446744073709551615 ∧ ∃ m : Nat, m ≤ 18446744073709551615 ∧ e = .returned (.tuple #[.int .u64 m, .nilIface])) ∨ (18446744073709551615 < valN 8 t.data.toList ∧ ∃ N, e = .returned (.tuple #[.int .u64 18446744073709551615, .iface 122 (.pointer (some ⟨N, 0, none⟩))]))) ∧ Below w.heap.size w w' := by
  have HP := parseIn8 t hne hmax w hd
  have HP2 : Hid (Calls Tryz.prog 69 #[.string t, .int .i64 8, .int .i64 64] w fun e w' => ((valN 8 t.data.toList ≤ 18446744073709551615 ∧ ∃ m : Nat, m ≤ 18446744073709551615 ∧ e = .returned (.tuple #[.int .u64 m, .nilIface])) ∨ (18446744073709551615 < valN 8 t.data.toList ∧ e = .returned (.tuple #[.int .u64 18446744073709551615, .iface 120 (.int .i64 1)]))) ∧ Below w.heap.size w w') := HP
  clear HP hd
  go_enter Tryz.func55, Tryz.ntmps55
  go_wp2_with fail
  refine HP2.out.mono ?_
  rintro e w1 ⟨⟨h, m, hm, rfl⟩ | ⟨h, rfl⟩, hb⟩
  · go_wp2
    go_ret2
    exact ⟨Or.inl ⟨h, m, hm, rfl⟩, hb⟩
  · have h6 : 6 < w.heap.size := World.block_lt_of_cell? _ _ hv
    have hv1 : w1.cell? ⟨6, 0, none⟩ = some (.iface te pe) := by rw [hb.cell h6]; exact hv
    go_wp2_with (go_at_call 70; refine (Tryz.strconv_toError_range _ _ _ _ (.iface te pe) _ (by omega) hv1 (Or.inr ⟨te, pe, rfl⟩)).mono ?_; rintro e w2 ⟨N, rfl, hN, hN2, hb2⟩)
    go_ret2
    exact ⟨Or.inr ⟨h, N, rfl⟩, hb.trans (hb2.mono hb.size)⟩
set_option maxHeartbeats 1000000 in
set_option maxRecDepth 100000 in
theorem parse10 (t : ByteArray) (hne : t.size ≠ 0) (hmax : t.size ≤ 1048576) (w : World) (hd : ∀ (k : Nat) (h : k < t.size), 0 ≤ hexV t[k] ∧ hexV t[k] < 10) (te : TypeId) (pe : Value) (hv : w.cell? ⟨6, 0, none⟩ = some (.iface te pe)) :
    Calls Tryz.prog 55 #[.string t, .int .i64 10, .int .i64 64] w fun e w' => ((valN 10 t.data.toList ≤ 18446744073709551615 ∧ ∃ m : Nat, m ≤ 18446744073709551615 ∧ e = .returned (.tuple #[.int .u64 m, .nilIface])) ∨ (18446744073709551615 < valN 10 t.data.toList ∧ ∃ N, e = .returned (.tuple #[.int .u64 18446744073709551615, .iface 122 (.pointer (some ⟨N, 0, none⟩))]))) ∧ Below w.heap.size w w' := by
  have HP := parseIn10 t hne hmax w hd
  have HP2 : Hid (Calls Tryz.prog 69 #[.string t, .int .i64 10, .int .i64 64] w fun e w' => ((valN 10 t.data.toList ≤ 18446744073709551615 ∧ ∃ m : Nat, m ≤ 18446744073709551615 ∧ e = .returned (.tuple #[.int .u64 m, .nilIface])) ∨ (18446744073709551615 < valN 10 t.data.toList ∧ e = .returned (.tuple #[.int .u64 18446744073709551615, .iface 120 (.int .i64 1)]))) ∧ Below w.heap.size w w') := HP
  clear HP hd
  go_enter Tryz.func55, Tryz.ntmps55
  go_wp2_with fail
  refine HP2.out.mono ?_
  rintro e w1 ⟨⟨h, m, hm, rfl⟩ | ⟨h, rfl⟩, hb⟩
  · go_wp2
    go_ret2
    exact ⟨Or.inl ⟨h, m, hm, rfl⟩, hb⟩
  · have h6 : 6 < w.heap.size := World.block_lt_of_cell? _ _ hv
    have hv1 : w1.cell? ⟨6, 0, none⟩ = some (.iface te pe) := by rw [hb.cell h6]; exact hv
    go_wp2_with (go_at_call 70; refine (Tryz.strconv_toError_range _ _ _ _ (.iface te pe) _ (by omega) hv1 (Or.inr ⟨te, pe, rfl⟩)).mono ?_; rintro e w2 ⟨N, rfl, hN, hN2, hb2⟩)
    go_ret2
    exact ⟨Or.inr ⟨h, N, rfl⟩, hb.trans (hb2.mono hb.size)⟩
set_option maxHeartbeats 1000000 in
set_option maxRecDepth 100000 in
theorem parse16 (t : ByteArray) (hne : t.size ≠ 0) (hmax : t.size ≤ 1048576) (w : World) (hd : ∀ (k : Nat) (h : k < t.size), 0 ≤ hexV t[k] ∧ hexV t[k] < 16) (te : TypeId) (pe : Value) (hv : w.cell? ⟨6, 0, none⟩ = some (.iface te pe)) :
    Calls Tryz.prog 55 #[.string t, .int .i64 16, .int .i64 64] w fun e w' => ((valN 16 t.data.toList ≤ 18446744073709551615 ∧ ∃ m : Nat, m ≤ 18446744073709551615 ∧ e = .returned (.tuple #[.int .u64 m, .nilIface])) ∨ (18446744073709551615 < valN 16 t.data.toList ∧ ∃ N, e = .returned (.tuple #[.int .u64 18446744073709551615, .iface 122 (.pointer (some ⟨N, 0, none⟩))]))) ∧ Below w.heap.size w w' := by
  have HP := parseIn16 t hne hmax w hd
  have HP2 : Hid (Calls Tryz.prog 69 #[.string t, .int .i64 16, .int .i64 64] w fun e w' => ((valN 16 t.data.toList ≤ 18446744073709551615 ∧ ∃ m : Nat, m ≤ 18446744073709551615 ∧ e = .returned (.tuple #[.int .u64 m, .nilIface])) ∨ (18446744073709551615 < valN 16 t.data.toList ∧ e = .returned (.tuple #[.int .u64 18446744073709551615, .iface 120 (.int .i64 1)]))) ∧ Below w.heap.size w w') := HP
  clear HP hd
  go_enter Tryz.func55, Tryz.ntmps55
  go_wp2_with fail
  refine HP2.out.mono ?_
  rintro e w1 ⟨⟨h, m, hm, rfl⟩ | ⟨h, rfl⟩, hb⟩
  · go_wp2
    go_ret2
    exact ⟨Or.inl ⟨h, m, hm, rfl⟩, hb⟩
  · have h6 : 6 < w.heap.size := World.block_lt_of_cell? _ _ hv
    have hv1 : w1.cell? ⟨6, 0, none⟩ = some (.iface te pe) := by rw [hb.cell h6]; exact hv
    go_wp2_with (go_at_call 70; refine (Tryz.strconv_toError_range _ _ _ _ (.iface te pe) _ (by omega) hv1 (Or.inr ⟨te, pe, rfl⟩)).mono ?_; rintro e w2 ⟨N, rfl, hN, hN2, hb2⟩)
    go_ret2
    exact ⟨Or.inr ⟨h, N, rfl⟩, hb.trans (hb2.mono hb.size)⟩
end Go.Proofs.Qxb6613210aGreatFmt
