import Derived.Test.Qxb6606268aDoorW1
namespace Go.Proofs.Qxb6606268aDoor
open Go.RowKit
/-- The text of a number: the plain function that (Numeric).String computes. -/
def numS (neg : Bool) (d : List UInt8) (ex sc : Int) : List UInt8 :=
  (if neg then [45] else []) ++ (if ex + d.length ≤ 0 then [48] else []) ++ d.take (min (max (ex + d.length) 0) d.length).toNat ++ List.replicate (max ex 0).toNat 48 ++
    (if 0 < sc then [46] ++ List.replicate (max (-(ex + d.length)) 0).toNat 48 ++ d.drop (min (max (ex + d.length) 0) d.length).toNat ++ List.replicate (sc - max (-ex) 0).toNat 48 else [])
theorem take_list (s : ByteArray) (n : Nat) : (s.extract 0 n).data.toList = s.data.toList.take n := by
  rw [ByteArray.data_extract, Array.toList_extract, List.extract_eq_take_drop]; simp
theorem drop_list (s : ByteArray) (n : Nat) : (s.extract n s.size).data.toList = s.data.toList.drop n := by
  rw [ByteArray.data_extract, Array.toList_extract, List.extract_eq_take_drop]
  rw [List.take_of_length_le]
  rw [List.length_drop, Array.length_toList]; exact Nat.le_refl _
theorem take_drop_all (s : ByteArray) (n : Nat) : List.take (s.size - n) (List.drop n s.data.toList) = List.drop n s.data.toList := by
  apply List.take_of_length_le
  rw [List.length_drop, Array.length_toList]; exact Nat.le_refl _
theorem len_list (s : ByteArray) : s.data.toList.length = s.size := by rw [Array.length_toList]; rfl
set_option linter.unusedSimpArgs false in
set_option maxRecDepth 100000 in
set_option maxHeartbeats 2000000 in
theorem string_false (ds : ByteArray) (ex sc : Int) (w : World) (hds : (ds.size : Int) ≤ 1048576) (he1 : -ex ≤ sc) (he2 : ex ≤ 2000000) (hsc : 0 ≤ sc) (hsc2 : sc ≤ 65536) :
    Calls Tryd.prog 13 #[.agg #[.bool false, .string ds, .int .i64 ex, .int .i64 sc]] w fun e w' => e = .returned (.string ⟨(numS false ds.data.toList ex sc).toArray⟩) ∧ Below w.heap.size w w' := by
  obtain ⟨N, hN⟩ : ∃ N, w.heap.size = N := ⟨_, rfl⟩
  have HS' : Hid (∀ neg : Bool, St w N neg ds ex sc 0 [] ((w.alloc (.cells #[.bool neg, .string ds, .int .i64 ex, .int .i64 sc] 29)).alloc (.cells #[.pointer none, .slice none 0 0] 40))) := fun neg => St.start w N hN neg ds ex sc
  rw [hN]
  have hSt := HS'.out false
  clear HS'
  go_enter Tryd.func13, Tryd.ntmps13
  by_cases hle : ex + (ds.size : Int) ≤ 0
  · by_cases hs0 : 0 < sc
    · skip
      go_wp2_with (first | (go_at_call 19; refine (hSt.str _ 8000000 (by first | (rw [zeroS_size]; omega) | (rw [ByteArray.size_extract]; omega)) (by omega)).mono ?_; rintro e w' ⟨rfl, hS2⟩; clear hSt; have hSt := hS2; clear hS2; obtain ⟨c0, c1, c2, c3⟩ := hSt.cells) | (go_at_call 20; refine (hSt.rep _ (by omega) (by omega)).mono ?_; rintro e w' ⟨rfl, hS2⟩; clear hSt; have hSt := hS2; clear hS2; obtain ⟨c0, c1, c2, c3⟩ := hSt.cells) | (go_at_call 21; refine hSt.done.mono ?_; rintro e w' ⟨rfl, hbel⟩))
      refine (hSt.byte_zero (by omega)).mono ?_
      rintro e w' ⟨rfl, hS2⟩
      clear hSt
      have hSt := hS2
      clear hS2
      obtain ⟨c0, c1, c2, c3⟩ := hSt.cells
      go_wp2_with (first | (go_at_call 19; refine (hSt.str _ 8000000 (by first | (rw [zeroS_size]; omega) | (rw [ByteArray.size_extract]; omega)) (by omega)).mono ?_; rintro e w' ⟨rfl, hS2⟩; clear hSt; have hSt := hS2; clear hS2; obtain ⟨c0, c1, c2, c3⟩ := hSt.cells) | (go_at_call 20; refine (hSt.rep _ (by omega) (by omega)).mono ?_; rintro e w' ⟨rfl, hS2⟩; clear hSt; have hSt := hS2; clear hS2; obtain ⟨c0, c1, c2, c3⟩ := hSt.cells) | (go_at_call 21; refine hSt.done.mono ?_; rintro e w' ⟨rfl, hbel⟩))
      refine (hSt.byte_dot (by omega)).mono ?_
      rintro e w' ⟨rfl, hS2⟩
      clear hSt
      have hSt := hS2
      clear hS2
      obtain ⟨c0, c1, c2, c3⟩ := hSt.cells
      go_wp2_with (first | (go_at_call 19; refine (hSt.str _ 8000000 (by first | (rw [zeroS_size]; omega) | (rw [ByteArray.size_extract]; omega)) (by omega)).mono ?_; rintro e w' ⟨rfl, hS2⟩; clear hSt; have hSt := hS2; clear hS2; obtain ⟨c0, c1, c2, c3⟩ := hSt.cells) | (go_at_call 20; refine (hSt.rep _ (by omega) (by omega)).mono ?_; rintro e w' ⟨rfl, hS2⟩; clear hSt; have hSt := hS2; clear hS2; obtain ⟨c0, c1, c2, c3⟩ := hSt.cells) | (go_at_call 21; refine hSt.done.mono ?_; rintro e w' ⟨rfl, hbel⟩))
      go_ret
      refine ⟨?_, hbel⟩
      refine congrArg (fun l : List UInt8 => Ending.returned (Value.string ⟨l.toArray⟩)) ?_
      have q1 : ex + (ds.size : Int) ≤ 0 := by omega
      have q2 : 0 < sc := by omega
      unfold numS
      simp [take_drop_all, zeroS_list, len_list, q1, q2]
    · skip
      go_wp2_with (first | (go_at_call 19; refine (hSt.str _ 8000000 (by first | (rw [zeroS_size]; omega) | (rw [ByteArray.size_extract]; omega)) (by omega)).mono ?_; rintro e w' ⟨rfl, hS2⟩; clear hSt; have hSt := hS2; clear hS2; obtain ⟨c0, c1, c2, c3⟩ := hSt.cells) | (go_at_call 20; refine (hSt.rep _ (by omega) (by omega)).mono ?_; rintro e w' ⟨rfl, hS2⟩; clear hSt; have hSt := hS2; clear hS2; obtain ⟨c0, c1, c2, c3⟩ := hSt.cells) | (go_at_call 21; refine hSt.done.mono ?_; rintro e w' ⟨rfl, hbel⟩))
      refine (hSt.byte_zero (by omega)).mono ?_
      rintro e w' ⟨rfl, hS2⟩
      clear hSt
      have hSt := hS2
      clear hS2
      obtain ⟨c0, c1, c2, c3⟩ := hSt.cells
      go_wp2_with (first | (go_at_call 19; refine (hSt.str _ 8000000 (by first | (rw [zeroS_size]; omega) | (rw [ByteArray.size_extract]; omega)) (by omega)).mono ?_; rintro e w' ⟨rfl, hS2⟩; clear hSt; have hSt := hS2; clear hS2; obtain ⟨c0, c1, c2, c3⟩ := hSt.cells) | (go_at_call 20; refine (hSt.rep _ (by omega) (by omega)).mono ?_; rintro e w' ⟨rfl, hS2⟩; clear hSt; have hSt := hS2; clear hS2; obtain ⟨c0, c1, c2, c3⟩ := hSt.cells) | (go_at_call 21; refine hSt.done.mono ?_; rintro e w' ⟨rfl, hbel⟩))
      go_ret
      refine ⟨?_, hbel⟩
      refine congrArg (fun l : List UInt8 => Ending.returned (Value.string ⟨l.toArray⟩)) ?_
      have q1 : ex + (ds.size : Int) ≤ 0 := by omega
      have q2 : ¬ 0 < sc := by omega
      unfold numS
      simp [take_drop_all, zeroS_list, len_list, q1, q2]
  · by_cases hs0 : 0 < sc
    · skip
      go_wp2_with (first | (go_at_call 19; refine (hSt.str _ 8000000 (by first | (rw [zeroS_size]; omega) | (rw [ByteArray.size_extract]; omega)) (by omega)).mono ?_; rintro e w' ⟨rfl, hS2⟩; clear hSt; have hSt := hS2; clear hS2; obtain ⟨c0, c1, c2, c3⟩ := hSt.cells) | (go_at_call 20; refine (hSt.rep _ (by omega) (by omega)).mono ?_; rintro e w' ⟨rfl, hS2⟩; clear hSt; have hSt := hS2; clear hS2; obtain ⟨c0, c1, c2, c3⟩ := hSt.cells) | (go_at_call 21; refine hSt.done.mono ?_; rintro e w' ⟨rfl, hbel⟩))
      refine (hSt.byte_dot (by omega)).mono ?_
      rintro e w' ⟨rfl, hS2⟩
      clear hSt
      have hSt := hS2
      clear hS2
      obtain ⟨c0, c1, c2, c3⟩ := hSt.cells
      go_wp2_with (first | (go_at_call 19; refine (hSt.str _ 8000000 (by first | (rw [zeroS_size]; omega) | (rw [ByteArray.size_extract]; omega)) (by omega)).mono ?_; rintro e w' ⟨rfl, hS2⟩; clear hSt; have hSt := hS2; clear hS2; obtain ⟨c0, c1, c2, c3⟩ := hSt.cells) | (go_at_call 20; refine (hSt.rep _ (by omega) (by omega)).mono ?_; rintro e w' ⟨rfl, hS2⟩; clear hSt; have hSt := hS2; clear hS2; obtain ⟨c0, c1, c2, c3⟩ := hSt.cells) | (go_at_call 21; refine hSt.done.mono ?_; rintro e w' ⟨rfl, hbel⟩))
      go_ret
      refine ⟨?_, hbel⟩
      refine congrArg (fun l : List UInt8 => Ending.returned (Value.string ⟨l.toArray⟩)) ?_
      have q1 : ¬ ex + (ds.size : Int) ≤ 0 := by omega
      have q2 : 0 < sc := by omega
      unfold numS
      simp [take_drop_all, zeroS_list, len_list, q1, q2]
    · skip
      go_wp2_with (first | (go_at_call 19; refine (hSt.str _ 8000000 (by first | (rw [zeroS_size]; omega) | (rw [ByteArray.size_extract]; omega)) (by omega)).mono ?_; rintro e w' ⟨rfl, hS2⟩; clear hSt; have hSt := hS2; clear hS2; obtain ⟨c0, c1, c2, c3⟩ := hSt.cells) | (go_at_call 20; refine (hSt.rep _ (by omega) (by omega)).mono ?_; rintro e w' ⟨rfl, hS2⟩; clear hSt; have hSt := hS2; clear hS2; obtain ⟨c0, c1, c2, c3⟩ := hSt.cells) | (go_at_call 21; refine hSt.done.mono ?_; rintro e w' ⟨rfl, hbel⟩))
      go_ret
      refine ⟨?_, hbel⟩
      refine congrArg (fun l : List UInt8 => Ending.returned (Value.string ⟨l.toArray⟩)) ?_
      have q1 : ¬ ex + (ds.size : Int) ≤ 0 := by omega
      have q2 : ¬ 0 < sc := by omega
      unfold numS
      simp [take_drop_all, zeroS_list, len_list, q1, q2]
set_option linter.unusedSimpArgs false in
set_option maxRecDepth 100000 in
set_option maxHeartbeats 2000000 in
theorem string_true (ds : ByteArray) (ex sc : Int) (w : World) (hds : (ds.size : Int) ≤ 1048576) (he1 : -ex ≤ sc) (he2 : ex ≤ 2000000) (hsc : 0 ≤ sc) (hsc2 : sc ≤ 65536) :
    Calls Tryd.prog 13 #[.agg #[.bool true, .string ds, .int .i64 ex, .int .i64 sc]] w fun e w' => e = .returned (.string ⟨(numS true ds.data.toList ex sc).toArray⟩) ∧ Below w.heap.size w w' := by
  obtain ⟨N, hN⟩ : ∃ N, w.heap.size = N := ⟨_, rfl⟩
  have HS' : Hid (∀ neg : Bool, St w N neg ds ex sc 0 [] ((w.alloc (.cells #[.bool neg, .string ds, .int .i64 ex, .int .i64 sc] 29)).alloc (.cells #[.pointer none, .slice none 0 0] 40))) := fun neg => St.start w N hN neg ds ex sc
  rw [hN]
  have hSt := HS'.out true
  clear HS'
  go_enter Tryd.func13, Tryd.ntmps13
  by_cases hle : ex + (ds.size : Int) ≤ 0
  · by_cases hs0 : 0 < sc
    · skip
      go_wp2_with (first | (go_at_call 19; refine (hSt.str _ 8000000 (by first | (rw [zeroS_size]; omega) | (rw [ByteArray.size_extract]; omega)) (by omega)).mono ?_; rintro e w' ⟨rfl, hS2⟩; clear hSt; have hSt := hS2; clear hS2; obtain ⟨c0, c1, c2, c3⟩ := hSt.cells) | (go_at_call 20; refine (hSt.rep _ (by omega) (by omega)).mono ?_; rintro e w' ⟨rfl, hS2⟩; clear hSt; have hSt := hS2; clear hS2; obtain ⟨c0, c1, c2, c3⟩ := hSt.cells) | (go_at_call 21; refine hSt.done.mono ?_; rintro e w' ⟨rfl, hbel⟩))
      refine (hSt.byte_neg (by omega)).mono ?_
      rintro e w' ⟨rfl, hS2⟩
      clear hSt
      have hSt := hS2
      clear hS2
      obtain ⟨c0, c1, c2, c3⟩ := hSt.cells
      go_wp2_with (first | (go_at_call 19; refine (hSt.str _ 8000000 (by first | (rw [zeroS_size]; omega) | (rw [ByteArray.size_extract]; omega)) (by omega)).mono ?_; rintro e w' ⟨rfl, hS2⟩; clear hSt; have hSt := hS2; clear hS2; obtain ⟨c0, c1, c2, c3⟩ := hSt.cells) | (go_at_call 20; refine (hSt.rep _ (by omega) (by omega)).mono ?_; rintro e w' ⟨rfl, hS2⟩; clear hSt; have hSt := hS2; clear hS2; obtain ⟨c0, c1, c2, c3⟩ := hSt.cells) | (go_at_call 21; refine hSt.done.mono ?_; rintro e w' ⟨rfl, hbel⟩))
      refine (hSt.byte_zero (by omega)).mono ?_
      rintro e w' ⟨rfl, hS2⟩
      clear hSt
      have hSt := hS2
      clear hS2
      obtain ⟨c0, c1, c2, c3⟩ := hSt.cells
      go_wp2_with (first | (go_at_call 19; refine (hSt.str _ 8000000 (by first | (rw [zeroS_size]; omega) | (rw [ByteArray.size_extract]; omega)) (by omega)).mono ?_; rintro e w' ⟨rfl, hS2⟩; clear hSt; have hSt := hS2; clear hS2; obtain ⟨c0, c1, c2, c3⟩ := hSt.cells) | (go_at_call 20; refine (hSt.rep _ (by omega) (by omega)).mono ?_; rintro e w' ⟨rfl, hS2⟩; clear hSt; have hSt := hS2; clear hS2; obtain ⟨c0, c1, c2, c3⟩ := hSt.cells) | (go_at_call 21; refine hSt.done.mono ?_; rintro e w' ⟨rfl, hbel⟩))
      refine (hSt.byte_dot (by omega)).mono ?_
      rintro e w' ⟨rfl, hS2⟩
      clear hSt
      have hSt := hS2
      clear hS2
      obtain ⟨c0, c1, c2, c3⟩ := hSt.cells
      go_wp2_with (first | (go_at_call 19; refine (hSt.str _ 8000000 (by first | (rw [zeroS_size]; omega) | (rw [ByteArray.size_extract]; omega)) (by omega)).mono ?_; rintro e w' ⟨rfl, hS2⟩; clear hSt; have hSt := hS2; clear hS2; obtain ⟨c0, c1, c2, c3⟩ := hSt.cells) | (go_at_call 20; refine (hSt.rep _ (by omega) (by omega)).mono ?_; rintro e w' ⟨rfl, hS2⟩; clear hSt; have hSt := hS2; clear hS2; obtain ⟨c0, c1, c2, c3⟩ := hSt.cells) | (go_at_call 21; refine hSt.done.mono ?_; rintro e w' ⟨rfl, hbel⟩))
      go_ret
      refine ⟨?_, hbel⟩
      refine congrArg (fun l : List UInt8 => Ending.returned (Value.string ⟨l.toArray⟩)) ?_
      have q1 : ex + (ds.size : Int) ≤ 0 := by omega
      have q2 : 0 < sc := by omega
      unfold numS
      simp [take_drop_all, zeroS_list, len_list, q1, q2]
    · skip
      go_wp2_with (first | (go_at_call 19; refine (hSt.str _ 8000000 (by first | (rw [zeroS_size]; omega) | (rw [ByteArray.size_extract]; omega)) (by omega)).mono ?_; rintro e w' ⟨rfl, hS2⟩; clear hSt; have hSt := hS2; clear hS2; obtain ⟨c0, c1, c2, c3⟩ := hSt.cells) | (go_at_call 20; refine (hSt.rep _ (by omega) (by omega)).mono ?_; rintro e w' ⟨rfl, hS2⟩; clear hSt; have hSt := hS2; clear hS2; obtain ⟨c0, c1, c2, c3⟩ := hSt.cells) | (go_at_call 21; refine hSt.done.mono ?_; rintro e w' ⟨rfl, hbel⟩))
      refine (hSt.byte_neg (by omega)).mono ?_
      rintro e w' ⟨rfl, hS2⟩
      clear hSt
      have hSt := hS2
      clear hS2
      obtain ⟨c0, c1, c2, c3⟩ := hSt.cells
      go_wp2_with (first | (go_at_call 19; refine (hSt.str _ 8000000 (by first | (rw [zeroS_size]; omega) | (rw [ByteArray.size_extract]; omega)) (by omega)).mono ?_; rintro e w' ⟨rfl, hS2⟩; clear hSt; have hSt := hS2; clear hS2; obtain ⟨c0, c1, c2, c3⟩ := hSt.cells) | (go_at_call 20; refine (hSt.rep _ (by omega) (by omega)).mono ?_; rintro e w' ⟨rfl, hS2⟩; clear hSt; have hSt := hS2; clear hS2; obtain ⟨c0, c1, c2, c3⟩ := hSt.cells) | (go_at_call 21; refine hSt.done.mono ?_; rintro e w' ⟨rfl, hbel⟩))
      refine (hSt.byte_zero (by omega)).mono ?_
      rintro e w' ⟨rfl, hS2⟩
      clear hSt
      have hSt := hS2
      clear hS2
      obtain ⟨c0, c1, c2, c3⟩ := hSt.cells
      go_wp2_with (first | (go_at_call 19; refine (hSt.str _ 8000000 (by first | (rw [zeroS_size]; omega) | (rw [ByteArray.size_extract]; omega)) (by omega)).mono ?_; rintro e w' ⟨rfl, hS2⟩; clear hSt; have hSt := hS2; clear hS2; obtain ⟨c0, c1, c2, c3⟩ := hSt.cells) | (go_at_call 20; refine (hSt.rep _ (by omega) (by omega)).mono ?_; rintro e w' ⟨rfl, hS2⟩; clear hSt; have hSt := hS2; clear hS2; obtain ⟨c0, c1, c2, c3⟩ := hSt.cells) | (go_at_call 21; refine hSt.done.mono ?_; rintro e w' ⟨rfl, hbel⟩))
      go_ret
      refine ⟨?_, hbel⟩
      refine congrArg (fun l : List UInt8 => Ending.returned (Value.string ⟨l.toArray⟩)) ?_
      have q1 : ex + (ds.size : Int) ≤ 0 := by omega
      have q2 : ¬ 0 < sc := by omega
      unfold numS
      simp [take_drop_all, zeroS_list, len_list, q1, q2]
  · by_cases hs0 : 0 < sc
    · skip
      go_wp2_with (first | (go_at_call 19; refine (hSt.str _ 8000000 (by first | (rw [zeroS_size]; omega) | (rw [ByteArray.size_extract]; omega)) (by omega)).mono ?_; rintro e w' ⟨rfl, hS2⟩; clear hSt; have hSt := hS2; clear hS2; obtain ⟨c0, c1, c2, c3⟩ := hSt.cells) | (go_at_call 20; refine (hSt.rep _ (by omega) (by omega)).mono ?_; rintro e w' ⟨rfl, hS2⟩; clear hSt; have hSt := hS2; clear hS2; obtain ⟨c0, c1, c2, c3⟩ := hSt.cells) | (go_at_call 21; refine hSt.done.mono ?_; rintro e w' ⟨rfl, hbel⟩))
      refine (hSt.byte_neg (by omega)).mono ?_
      rintro e w' ⟨rfl, hS2⟩
      clear hSt
      have hSt := hS2
      clear hS2
      obtain ⟨c0, c1, c2, c3⟩ := hSt.cells
      go_wp2_with (first | (go_at_call 19; refine (hSt.str _ 8000000 (by first | (rw [zeroS_size]; omega) | (rw [ByteArray.size_extract]; omega)) (by omega)).mono ?_; rintro e w' ⟨rfl, hS2⟩; clear hSt; have hSt := hS2; clear hS2; obtain ⟨c0, c1, c2, c3⟩ := hSt.cells) | (go_at_call 20; refine (hSt.rep _ (by omega) (by omega)).mono ?_; rintro e w' ⟨rfl, hS2⟩; clear hSt; have hSt := hS2; clear hS2; obtain ⟨c0, c1, c2, c3⟩ := hSt.cells) | (go_at_call 21; refine hSt.done.mono ?_; rintro e w' ⟨rfl, hbel⟩))
      refine (hSt.byte_dot (by omega)).mono ?_
      rintro e w' ⟨rfl, hS2⟩
      clear hSt
      have hSt := hS2
      clear hS2
      obtain ⟨c0, c1, c2, c3⟩ := hSt.cells
      go_wp2_with (first | (go_at_call 19; refine (hSt.str _ 8000000 (by first | (rw [zeroS_size]; omega) | (rw [ByteArray.size_extract]; omega)) (by omega)).mono ?_; rintro e w' ⟨rfl, hS2⟩; clear hSt; have hSt := hS2; clear hS2; obtain ⟨c0, c1, c2, c3⟩ := hSt.cells) | (go_at_call 20; refine (hSt.rep _ (by omega) (by omega)).mono ?_; rintro e w' ⟨rfl, hS2⟩; clear hSt; have hSt := hS2; clear hS2; obtain ⟨c0, c1, c2, c3⟩ := hSt.cells) | (go_at_call 21; refine hSt.done.mono ?_; rintro e w' ⟨rfl, hbel⟩))
      go_ret
      refine ⟨?_, hbel⟩
      refine congrArg (fun l : List UInt8 => Ending.returned (Value.string ⟨l.toArray⟩)) ?_
      have q1 : ¬ ex + (ds.size : Int) ≤ 0 := by omega
      have q2 : 0 < sc := by omega
      unfold numS
      simp [take_drop_all, zeroS_list, len_list, q1, q2]
    · skip
      go_wp2_with (first | (go_at_call 19; refine (hSt.str _ 8000000 (by first | (rw [zeroS_size]; omega) | (rw [ByteArray.size_extract]; omega)) (by omega)).mono ?_; rintro e w' ⟨rfl, hS2⟩; clear hSt; have hSt := hS2; clear hS2; obtain ⟨c0, c1, c2, c3⟩ := hSt.cells) | (go_at_call 20; refine (hSt.rep _ (by omega) (by omega)).mono ?_; rintro e w' ⟨rfl, hS2⟩; clear hSt; have hSt := hS2; clear hS2; obtain ⟨c0, c1, c2, c3⟩ := hSt.cells) | (go_at_call 21; refine hSt.done.mono ?_; rintro e w' ⟨rfl, hbel⟩))
      refine (hSt.byte_neg (by omega)).mono ?_
      rintro e w' ⟨rfl, hS2⟩
      clear hSt
      have hSt := hS2
      clear hS2
      obtain ⟨c0, c1, c2, c3⟩ := hSt.cells
      go_wp2_with (first | (go_at_call 19; refine (hSt.str _ 8000000 (by first | (rw [zeroS_size]; omega) | (rw [ByteArray.size_extract]; omega)) (by omega)).mono ?_; rintro e w' ⟨rfl, hS2⟩; clear hSt; have hSt := hS2; clear hS2; obtain ⟨c0, c1, c2, c3⟩ := hSt.cells) | (go_at_call 20; refine (hSt.rep _ (by omega) (by omega)).mono ?_; rintro e w' ⟨rfl, hS2⟩; clear hSt; have hSt := hS2; clear hS2; obtain ⟨c0, c1, c2, c3⟩ := hSt.cells) | (go_at_call 21; refine hSt.done.mono ?_; rintro e w' ⟨rfl, hbel⟩))
      go_ret
      refine ⟨?_, hbel⟩
      refine congrArg (fun l : List UInt8 => Ending.returned (Value.string ⟨l.toArray⟩)) ?_
      have q1 : ¬ ex + (ds.size : Int) ≤ 0 := by omega
      have q2 : ¬ 0 < sc := by omega
      unfold numS
      simp [take_drop_all, zeroS_list, len_list, q1, q2]
theorem string_any (neg : Bool) (ds : ByteArray) (ex sc : Int) (w : World) (hds : (ds.size : Int) ≤ 1048576) (he1 : -ex ≤ sc) (he2 : ex ≤ 2000000) (hsc : 0 ≤ sc) (hsc2 : sc ≤ 65536) :
    Calls Tryd.prog 13 #[.agg #[.bool neg, .string ds, .int .i64 ex, .int .i64 sc]] w fun e w' => e = .returned (.string ⟨(numS neg ds.data.toList ex sc).toArray⟩) ∧ Below w.heap.size w w' := by
  cases neg
  · exact string_false ds ex sc w hds he1 he2 hsc hsc2
  · exact string_true ds ex sc w hds he1 he2 hsc hsc2
end Go.Proofs.Qxb6606268aDoor
