import Derived.Test.Qxb6613210aGreatFmtShelf
import Derived.Test.Qxb6613210aGreatFmtRows
import Derived.Lib.ItoaMem
import Derived.Lib.LaidTab
import Derived.WalkKit
import Derived.WalkSpells
namespace Go.Proofs.Qxb6613210aGreatFmt
open Go.RowKit Go.Sort Go.Lib

/-- The table of the powers of ten, as the row lists it. -/
def Pow10 (w : World) : Prop := Lib.TabIs Tryz.prog w ((Rows.fnErrorAtSpecStartRow.laid.map (·.1)).getD 2 "") .u64 Lib.pow10Tab

theorem holds_zero0 (w : World) (T : TypeId) (nd : Nat) (hs : nd ≤ 24) : Holds (fun (b : UInt8) => Value.int .u8 (b.toNat : Int)) (w.alloc (.cells Lib.zeros24 T)) w.heap.size 0 (Array.replicate nd (0 : UInt8)) := fun j hj => by
  have hj' : j < nd := by simpa using hj
  refine ⟨?_, World.frozen?_alloc_new _ _ _ _⟩
  rw [World.cell?_alloc_new, Nat.zero_add, Lib.zeros24_at _ (by omega), getElem!_pos _ j hj]
  simp

theorem below_put (w : World) (o : Obj) (dk : Array UInt8) (k : Nat) : Below w.heap.size w ((putRow (fun (b : UInt8) => Value.int .u8 (b.toNat : Int)) (w.alloc o) w.heap.size 0 dk).drewN k) := by
  rw [alloc_eq_grow]
  obtain ⟨os', _, e⟩ := putRow_grow_new (fun (b : UInt8) => Value.int .u8 (b.toNat : Int)) w #[o] w.heap.size 0 dk (Nat.le_refl _)
  rw [e]
  exact ⟨rfl, rfl, rfl, by show w.heap.size ≤ (w.heap ++ os').size; rw [Array.size_append]; omega, fun j hj => by
    show (w.heap ++ os')[j]? = _
    rw [Array.getElem?_append_left hj]⟩

set_option maxHeartbeats 6400000 in
set_option maxRecDepth 100000 in
theorem formatUint_in (u : Nat) (hu64 : u ≤ 18446744073709551615) (w : World) (htab : Pow10 w) :
    Calls Tryz.prog 71 #[.int .u64 u, .int .i64 10] w fun e w' => (∃ t : ByteArray, e = .returned (.string t)) ∧ Below w.heap.size w w' := by
  have HTAB : Hid (Pow10 w) := htab
  clear htab
  by_cases hs : u < 100
  · go_enter Tryz.func71, Tryz.ntmps71
    go_wp2_with (go_at_call 82; refine (Tryz.internal_strconv_small u hs _).mono ?_; rintro e w' ⟨rfl, rfl⟩)
    go_ret
    exact ⟨⟨_, rfl⟩, Below.refl _ _⟩
  · have hu1 : 1 ≤ u := by omega
    have hu2 : u < 18446744073709551616 := by omega
    have hnd20 : Lib.nDigits u ≤ 20 := by have := Lib.numDigits_eq u hu1 hu2; split at this <;> omega
    have hal : Tryz.prog.arrayLen 126 = 24 := by simp [Program.arrayLen, Tryz.underlying126]
    have hsl1 : ∀ W, (Instr.sliceAt 126 (.pointer (some ⟨w.heap.size, 0, none⟩)) none (some (.int .i64 (Lib.nDigits u : Int))) none).run Tryz.prog W = .ok (.slice (some ⟨w.heap.size, 0, none⟩) (Lib.nDigits u) 24) W := fun W => by
      rw [run_sliceAt_array_h W 126 ⟨w.heap.size, 0, none⟩ (by simp [Program.arrayLen, Program.elem, Tryz.underlying126]) .i64 (Lib.nDigits u : Int) (by omega) (by rw [hal]; omega)]
      go_simp
    have hH0 := holds_zero0 w 126 (Lib.nDigits u) (by omega)
    have hfmt := Tryz.internal_strconv_formatBase10 w.heap.size 0 24 u (Array.replicate (Lib.nDigits u) 0) (w.alloc (.cells Lib.zeros24 126)) hH0 (by rw [Array.size_replicate]; exact Lib.lt_pow_nDigits u) hu2 (by rw [Array.size_replicate]; omega)
    rw [Array.size_replicate] at hfmt
    have HH0 := Lib.hid hH0
    have HU : Hid (u < 18446744073709551616) := hu2
    clear hH0 hal hu2
    go_enter Tryz.func71, Tryz.ntmps71
    go_wp2_with (first
      | (go_at_call 83; refine (Any.internal_strconv_numDigits Tryz.laysM284 u hu1 HU.out _ (Lib.tabIs_alloc HTAB.out _)).mono ?_; rintro e w' ⟨rfl, rfl⟩))
    go_at_call 84
    refine hfmt.mono ?_
    rintro e w' ⟨rfl, k, v', dk, rfl, hF⟩
    have hcv : (convert 66 9 (.slice (some ⟨w.heap.size, 0, none⟩) (Lib.nDigits u) 24)).run Tryz.prog ((putRow (fun (b : UInt8) => Value.int .u8 (b.toNat : Int)) (w.alloc (.cells Lib.zeros24 126)) w.heap.size 0 dk).drewN k) = .ok (.string ⟨(Lib.decDigits u).toArray⟩) ((putRow (fun (b : UInt8) => Value.int .u8 (b.toNat : Int)) (w.alloc (.cells Lib.zeros24 126)) w.heap.size 0 dk).drewN k) := by
      have h := run_convert_bytes_back (P := Tryz.prog) ((putRow (fun (b : UInt8) => Value.int .u8 (b.toNat : Int)) (w.alloc (.cells Lib.zeros24 126)) w.heap.size 0 dk).drewN k) 66 9 5 ⟨w.heap.size, 0, none⟩ 24 (Lib.decDigits u) Tryz.underlying66 Tryz.underlying5 Tryz.underlying9 (fun j hj => by
        rw [Lib.row_is_numeral hF j hj, Lib.add_plain, World.cell?_drewN]
        exact cell?_putRow (fun (b : UInt8) => Value.int .u8 (b.toNat : Int)) _ w.heap.size 0 _ dk HH0.out (by rw [hF.size, Array.size_replicate]) j (by rw [hF.size]; rw [Lib.decDigits_length] at hj; exact hj))
      rw [Lib.decDigits_length] at h
      exact h
    go_wp2
    go_ret
    exact ⟨⟨_, rfl⟩, below_put w _ dk k⟩
theorem formatUint_any (u : Nat) (hu64 : u ≤ 18446744073709551615) (w : World) (htab : Pow10 w) :
    Calls Tryz.prog 56 #[.int .u64 u, .int .i64 10] w fun e w' => (∃ t : ByteArray, e = .returned (.string t)) ∧ Below w.heap.size w w' := by
  have HTAB : Hid (Pow10 w) := htab
  clear htab
  go_enter Tryz.func56, Tryz.ntmps56
  go_wp2_with (go_at_call 71; refine (formatUint_in u hu64 _ HTAB.out).mono ?_; rintro e w' ⟨⟨t, rfl⟩, hb⟩)
  go_ret
  exact ⟨⟨_, rfl⟩, hb⟩
end Go.Proofs.Qxb6613210aGreatFmt
