import Derived.Test.Qxb6606268aDoorW2
namespace Go.Proofs.Qxb6606268aDoor
open Go.RowKit
/-- What NewNumeric makes of the digits that are left behind its cut. -/
def nnOf (neg : Bool) (d1 : List UInt8) (e1 : Int) : Bool × List UInt8 × Int :=
  if (Lib.trimRightB (Lib.trimLeftB d1 48) 48).isEmpty then (false, [], 0)
  else (neg, Lib.trimRightB (Lib.trimLeftB d1 48) 48, e1 + (Lib.trimLeftB d1 48).length - (Lib.trimRightB (Lib.trimLeftB d1 48) 48).length)
/-- NewNumeric, as a plain function: sign, digits, exponent. -/
def nn (neg : Bool) (d : List UInt8) (ex sc : Int) : Bool × List UInt8 × Int :=
  if 0 < -sc - ex then nnOf neg (d.take (max (d.length - (-sc - ex)) 0).toNat) (-sc) else nnOf neg d ex
def bytesL (l : List UInt8) : ByteArray := ⟨l.toArray⟩
theorem bytesL_list (l : List UInt8) : (bytesL l).data.toList = l := by simp [bytesL]
theorem bytesL_size (l : List UInt8) : (bytesL l).size = l.length := by simp [bytesL, ByteArray.size]
theorem bytesL_empty (l : List UInt8) : (bytesL l).toList.isEmpty = l.isEmpty := by
  rw [ByteArray.toList_eq, bytesL_list]
theorem trimL_any (s : ByteArray) (w : World) : Calls Tryd.prog 16 #[.string s, .string ⟨#[48]⟩] w fun e w' => e = .returned (.string (bytesL (Lib.trimLeftB s.data.toList 48))) ∧ w' = w :=
  Tryd.strings_TrimLeft_one s 48 (by decide) w
theorem trimR_any (s : ByteArray) (w : World) (hs : s.size ≤ 1048576) : Calls Tryd.prog 17 #[.string s, .string ⟨#[48]⟩] w fun e w' => e = .returned (.string (bytesL (Lib.trimRightB s.data.toList 48))) ∧ w' = w :=
  Tryd.strings_TrimRight_one s 48 (by decide) w (by omega)
theorem trimLeft_len (l : List UInt8) (c : UInt8) : (Lib.trimLeftB l c).length ≤ l.length := by
  unfold Lib.trimLeftB
  exact (List.dropWhile_sublist _).length_le
theorem trimRight_len (l : List UInt8) (c : UInt8) : (Lib.trimRightB l c).length ≤ l.length := by
  unfold Lib.trimRightB
  have := (List.dropWhile_sublist (l := l.reverse) (p := (· == c))).length_le
  simpa using this
/-- The number that stands for a result of nn. -/
def numV (r : Bool × List UInt8 × Int) (sc : Int) : Value := .agg #[.bool r.1, .string (bytesL r.2.1), .int .i64 r.2.2, .int .i64 sc]
set_option maxRecDepth 100000 in
set_option maxHeartbeats 1000000 in
theorem new_ct (neg : Bool) (ds : ByteArray) (ex sc : Int) (w : World) (hds : (ds.size : Int) ≤ 1048576) (he1 : -65536 ≤ ex) (he2 : ex ≤ 65536) (hsc : 0 ≤ sc) (hsc2 : sc ≤ 65536) (hcut : 0 < -sc - ex) (hem : (Lib.trimRightB (Lib.trimLeftB (ds.extract 0 (max ((ds.size : Int) - (-sc - ex)) 0).toNat).data.toList 48) 48).isEmpty = true) :
    Calls Tryd.prog 12 #[.bool neg, .string ds, .int .i64 ex, .int .i64 sc] w fun e w' => e = .returned (.agg #[.bool false, .string ⟨#[]⟩, .int .i64 0, .int .i64 sc]) ∧ Below w.heap.size w w' := by
  have hD : (ds.extract 0 (max ((ds.size : Int) - (-sc - ex)) 0).toNat).size ≤ 1048576 := by rw [ByteArray.size_extract]; omega
  have hT1 := trimLeft_len (ds.extract 0 (max ((ds.size : Int) - (-sc - ex)) 0).toNat).data.toList 48
  rw [len_list] at hT1
  have hT2 := trimRight_len (Lib.trimLeftB (ds.extract 0 (max ((ds.size : Int) - (-sc - ex)) 0).toNat).data.toList 48) 48
  have HL : Hid (∀ w, Calls Tryd.prog 16 #[.string (ds.extract 0 (max ((ds.size : Int) - (-sc - ex)) 0).toNat), .string ⟨#[48]⟩] w fun e w' => e = .returned (.string (bytesL (Lib.trimLeftB (ds.extract 0 (max ((ds.size : Int) - (-sc - ex)) 0).toNat).data.toList 48))) ∧ w' = w) := fun w => trimL_any _ w
  have HR : Hid (∀ w, Calls Tryd.prog 17 #[.string (bytesL (Lib.trimLeftB (ds.extract 0 (max ((ds.size : Int) - (-sc - ex)) 0).toNat).data.toList 48)), .string ⟨#[48]⟩] w fun e w' => e = .returned (.string (bytesL (Lib.trimRightB (Lib.trimLeftB (ds.extract 0 (max ((ds.size : Int) - (-sc - ex)) 0).toNat).data.toList 48) 48))) ∧ w' = w) := fun w => by
    have := trimR_any (bytesL (Lib.trimLeftB (ds.extract 0 (max ((ds.size : Int) - (-sc - ex)) 0).toNat).data.toList 48)) w (by rw [bytesL_size]; omega)
    rw [bytesL_list] at this; exact this
  obtain ⟨l2, hl2⟩ : ∃ l2, Lib.trimLeftB (ds.extract 0 (max ((ds.size : Int) - (-sc - ex)) 0).toNat).data.toList 48 = l2 := ⟨_, rfl⟩
  obtain ⟨l3, hl3⟩ : ∃ l3, Lib.trimRightB l2 48 = l3 := ⟨_, rfl⟩
  rw [hl2] at HL HR hT1 hT2 
  rw [hl2] at hem
  rw [hl3] at HR hT2 hem 
  have z2 : (bytesL l2).size = l2.length := bytesL_size l2
  have z3 : (bytesL l3).size = l3.length := bytesL_size l3
  have z4 : (bytesL l3).toList.isEmpty = true := by rw [bytesL_empty]; exact hem
  clear hl2 hl3 hem
  go_enter Tryd.func12, Tryd.ntmps12
  go_wp2_with (first | (go_at_call 16; refine (HL.out _).mono ?_; rintro e w' ⟨rfl, hw⟩; replace hw := hw.symm; subst hw) | (go_at_call 17; refine (HR.out _).mono ?_; rintro e w' ⟨rfl, hw⟩; replace hw := hw.symm; subst hw))
  refine bodyPost_ret (v := .agg #[.bool false, .string ⟨#[]⟩, .int .i64 0, .int .i64 sc]) (by simp [results, Tryd.results12, go_sem]) rfl ?_
  exact ⟨rfl, (Below.refl _ _).alloc (Nat.le_refl _) _⟩
set_option maxRecDepth 100000 in
set_option maxHeartbeats 1000000 in
theorem new_cf (neg : Bool) (ds : ByteArray) (ex sc : Int) (w : World) (hds : (ds.size : Int) ≤ 1048576) (he1 : -65536 ≤ ex) (he2 : ex ≤ 65536) (hsc : 0 ≤ sc) (hsc2 : sc ≤ 65536) (hcut : 0 < -sc - ex) (hem : (Lib.trimRightB (Lib.trimLeftB (ds.extract 0 (max ((ds.size : Int) - (-sc - ex)) 0).toNat).data.toList 48) 48).isEmpty = false) :
    Calls Tryd.prog 12 #[.bool neg, .string ds, .int .i64 ex, .int .i64 sc] w fun e w' => e = .returned (.agg #[.bool neg, .string (bytesL (Lib.trimRightB (Lib.trimLeftB (ds.extract 0 (max ((ds.size : Int) - (-sc - ex)) 0).toNat).data.toList 48) 48)), .int .i64 ((-sc) + (Lib.trimLeftB (ds.extract 0 (max ((ds.size : Int) - (-sc - ex)) 0).toNat).data.toList 48).length - (Lib.trimRightB (Lib.trimLeftB (ds.extract 0 (max ((ds.size : Int) - (-sc - ex)) 0).toNat).data.toList 48) 48).length), .int .i64 sc]) ∧ Below w.heap.size w w' := by
  have hD : (ds.extract 0 (max ((ds.size : Int) - (-sc - ex)) 0).toNat).size ≤ 1048576 := by rw [ByteArray.size_extract]; omega
  have hT1 := trimLeft_len (ds.extract 0 (max ((ds.size : Int) - (-sc - ex)) 0).toNat).data.toList 48
  rw [len_list] at hT1
  have hT2 := trimRight_len (Lib.trimLeftB (ds.extract 0 (max ((ds.size : Int) - (-sc - ex)) 0).toNat).data.toList 48) 48
  have HL : Hid (∀ w, Calls Tryd.prog 16 #[.string (ds.extract 0 (max ((ds.size : Int) - (-sc - ex)) 0).toNat), .string ⟨#[48]⟩] w fun e w' => e = .returned (.string (bytesL (Lib.trimLeftB (ds.extract 0 (max ((ds.size : Int) - (-sc - ex)) 0).toNat).data.toList 48))) ∧ w' = w) := fun w => trimL_any _ w
  have HR : Hid (∀ w, Calls Tryd.prog 17 #[.string (bytesL (Lib.trimLeftB (ds.extract 0 (max ((ds.size : Int) - (-sc - ex)) 0).toNat).data.toList 48)), .string ⟨#[48]⟩] w fun e w' => e = .returned (.string (bytesL (Lib.trimRightB (Lib.trimLeftB (ds.extract 0 (max ((ds.size : Int) - (-sc - ex)) 0).toNat).data.toList 48) 48))) ∧ w' = w) := fun w => by
    have := trimR_any (bytesL (Lib.trimLeftB (ds.extract 0 (max ((ds.size : Int) - (-sc - ex)) 0).toNat).data.toList 48)) w (by rw [bytesL_size]; omega)
    rw [bytesL_list] at this; exact this
  obtain ⟨l2, hl2⟩ : ∃ l2, Lib.trimLeftB (ds.extract 0 (max ((ds.size : Int) - (-sc - ex)) 0).toNat).data.toList 48 = l2 := ⟨_, rfl⟩
  obtain ⟨l3, hl3⟩ : ∃ l3, Lib.trimRightB l2 48 = l3 := ⟨_, rfl⟩
  rw [hl2] at HL HR hT1 hT2 ⊢
  rw [hl2] at hem
  rw [hl3] at HR hT2 hem ⊢
  have z2 : (bytesL l2).size = l2.length := bytesL_size l2
  have z3 : (bytesL l3).size = l3.length := bytesL_size l3
  have z4 : (bytesL l3).toList.isEmpty = false := by rw [bytesL_empty]; exact hem
  clear hl2 hl3 hem
  go_enter Tryd.func12, Tryd.ntmps12
  go_wp2_with (first | (go_at_call 16; refine (HL.out _).mono ?_; rintro e w' ⟨rfl, hw⟩; replace hw := hw.symm; subst hw) | (go_at_call 17; refine (HR.out _).mono ?_; rintro e w' ⟨rfl, hw⟩; replace hw := hw.symm; subst hw))
  refine bodyPost_ret (v := .agg #[.bool neg, .string (bytesL l3), .int .i64 ((-sc) + l2.length - l3.length), .int .i64 sc]) (by simp [results, Tryd.results12, go_sem]) rfl ?_
  exact ⟨rfl, (Below.refl _ _).alloc (Nat.le_refl _) _⟩
set_option maxRecDepth 100000 in
set_option maxHeartbeats 1000000 in
theorem new_nt (neg : Bool) (ds : ByteArray) (ex sc : Int) (w : World) (hds : (ds.size : Int) ≤ 1048576) (he1 : -65536 ≤ ex) (he2 : ex ≤ 65536) (hsc : 0 ≤ sc) (hsc2 : sc ≤ 65536) (hcut : ¬ 0 < -sc - ex) (hem : (Lib.trimRightB (Lib.trimLeftB ds.data.toList 48) 48).isEmpty = true) :
    Calls Tryd.prog 12 #[.bool neg, .string ds, .int .i64 ex, .int .i64 sc] w fun e w' => e = .returned (.agg #[.bool false, .string ⟨#[]⟩, .int .i64 0, .int .i64 sc]) ∧ Below w.heap.size w w' := by
  have hD : ds.size ≤ 1048576 := by omega
  have hT1 := trimLeft_len ds.data.toList 48
  rw [len_list] at hT1
  have hT2 := trimRight_len (Lib.trimLeftB ds.data.toList 48) 48
  have HL : Hid (∀ w, Calls Tryd.prog 16 #[.string ds, .string ⟨#[48]⟩] w fun e w' => e = .returned (.string (bytesL (Lib.trimLeftB ds.data.toList 48))) ∧ w' = w) := fun w => trimL_any _ w
  have HR : Hid (∀ w, Calls Tryd.prog 17 #[.string (bytesL (Lib.trimLeftB ds.data.toList 48)), .string ⟨#[48]⟩] w fun e w' => e = .returned (.string (bytesL (Lib.trimRightB (Lib.trimLeftB ds.data.toList 48) 48))) ∧ w' = w) := fun w => by
    have := trimR_any (bytesL (Lib.trimLeftB ds.data.toList 48)) w (by rw [bytesL_size]; omega)
    rw [bytesL_list] at this; exact this
  obtain ⟨l2, hl2⟩ : ∃ l2, Lib.trimLeftB ds.data.toList 48 = l2 := ⟨_, rfl⟩
  obtain ⟨l3, hl3⟩ : ∃ l3, Lib.trimRightB l2 48 = l3 := ⟨_, rfl⟩
  rw [hl2] at HL HR hT1 hT2 
  rw [hl2] at hem
  rw [hl3] at HR hT2 hem 
  have z2 : (bytesL l2).size = l2.length := bytesL_size l2
  have z3 : (bytesL l3).size = l3.length := bytesL_size l3
  have z4 : (bytesL l3).toList.isEmpty = true := by rw [bytesL_empty]; exact hem
  clear hl2 hl3 hem
  go_enter Tryd.func12, Tryd.ntmps12
  go_wp2_with (first | (go_at_call 16; refine (HL.out _).mono ?_; rintro e w' ⟨rfl, hw⟩; replace hw := hw.symm; subst hw) | (go_at_call 17; refine (HR.out _).mono ?_; rintro e w' ⟨rfl, hw⟩; replace hw := hw.symm; subst hw))
  refine bodyPost_ret (v := .agg #[.bool false, .string ⟨#[]⟩, .int .i64 0, .int .i64 sc]) (by simp [results, Tryd.results12, go_sem]) rfl ?_
  exact ⟨rfl, (Below.refl _ _).alloc (Nat.le_refl _) _⟩
set_option maxRecDepth 100000 in
set_option maxHeartbeats 1000000 in
theorem new_nf (neg : Bool) (ds : ByteArray) (ex sc : Int) (w : World) (hds : (ds.size : Int) ≤ 1048576) (he1 : -65536 ≤ ex) (he2 : ex ≤ 65536) (hsc : 0 ≤ sc) (hsc2 : sc ≤ 65536) (hcut : ¬ 0 < -sc - ex) (hem : (Lib.trimRightB (Lib.trimLeftB ds.data.toList 48) 48).isEmpty = false) :
    Calls Tryd.prog 12 #[.bool neg, .string ds, .int .i64 ex, .int .i64 sc] w fun e w' => e = .returned (.agg #[.bool neg, .string (bytesL (Lib.trimRightB (Lib.trimLeftB ds.data.toList 48) 48)), .int .i64 (ex + (Lib.trimLeftB ds.data.toList 48).length - (Lib.trimRightB (Lib.trimLeftB ds.data.toList 48) 48).length), .int .i64 sc]) ∧ Below w.heap.size w w' := by
  have hD : ds.size ≤ 1048576 := by omega
  have hT1 := trimLeft_len ds.data.toList 48
  rw [len_list] at hT1
  have hT2 := trimRight_len (Lib.trimLeftB ds.data.toList 48) 48
  have HL : Hid (∀ w, Calls Tryd.prog 16 #[.string ds, .string ⟨#[48]⟩] w fun e w' => e = .returned (.string (bytesL (Lib.trimLeftB ds.data.toList 48))) ∧ w' = w) := fun w => trimL_any _ w
  have HR : Hid (∀ w, Calls Tryd.prog 17 #[.string (bytesL (Lib.trimLeftB ds.data.toList 48)), .string ⟨#[48]⟩] w fun e w' => e = .returned (.string (bytesL (Lib.trimRightB (Lib.trimLeftB ds.data.toList 48) 48))) ∧ w' = w) := fun w => by
    have := trimR_any (bytesL (Lib.trimLeftB ds.data.toList 48)) w (by rw [bytesL_size]; omega)
    rw [bytesL_list] at this; exact this
  obtain ⟨l2, hl2⟩ : ∃ l2, Lib.trimLeftB ds.data.toList 48 = l2 := ⟨_, rfl⟩
  obtain ⟨l3, hl3⟩ : ∃ l3, Lib.trimRightB l2 48 = l3 := ⟨_, rfl⟩
  rw [hl2] at HL HR hT1 hT2 ⊢
  rw [hl2] at hem
  rw [hl3] at HR hT2 hem ⊢
  have z2 : (bytesL l2).size = l2.length := bytesL_size l2
  have z3 : (bytesL l3).size = l3.length := bytesL_size l3
  have z4 : (bytesL l3).toList.isEmpty = false := by rw [bytesL_empty]; exact hem
  clear hl2 hl3 hem
  go_enter Tryd.func12, Tryd.ntmps12
  go_wp2_with (first | (go_at_call 16; refine (HL.out _).mono ?_; rintro e w' ⟨rfl, hw⟩; replace hw := hw.symm; subst hw) | (go_at_call 17; refine (HR.out _).mono ?_; rintro e w' ⟨rfl, hw⟩; replace hw := hw.symm; subst hw))
  refine bodyPost_ret (v := .agg #[.bool neg, .string (bytesL l3), .int .i64 (ex + l2.length - l3.length), .int .i64 sc]) (by simp [results, Tryd.results12, go_sem]) rfl ?_
  exact ⟨rfl, (Below.refl _ _).alloc (Nat.le_refl _) _⟩
theorem take_list0 (s : ByteArray) (n : Nat) : (s.extract 0 n).data.toList = s.data.toList.take n := take_list s n
/-- NewNumeric. -/
theorem new_any (neg : Bool) (ds : ByteArray) (ex sc : Int) (w : World) (hds : (ds.size : Int) ≤ 1048576) (he1 : -65536 ≤ ex) (he2 : ex ≤ 65536) (hsc : 0 ≤ sc) (hsc2 : sc ≤ 65536) :
    Calls Tryd.prog 12 #[.bool neg, .string ds, .int .i64 ex, .int .i64 sc] w fun e w' => e = .returned (numV (nn neg ds.data.toList ex sc) sc) ∧ Below w.heap.size w w' := by
  unfold numV nn
  by_cases hc : 0 < -sc - ex
  · rw [if_pos hc, len_list, ← take_list]
    unfold nnOf
    cases he : (Lib.trimRightB (Lib.trimLeftB (ds.extract 0 (max ((ds.size : Int) - (-sc - ex)) 0).toNat).data.toList 48) 48).isEmpty with
    | true => rw [if_pos rfl]; exact new_ct neg ds ex sc w hds he1 he2 hsc hsc2 hc he
    | false => rw [if_neg (by decide)]; exact new_cf neg ds ex sc w hds he1 he2 hsc hsc2 hc he
  · rw [if_neg hc]
    unfold nnOf
    cases he : (Lib.trimRightB (Lib.trimLeftB ds.data.toList 48) 48).isEmpty with
    | true => rw [if_pos rfl]; exact new_nt neg ds ex sc w hds he1 he2 hsc hsc2 hc he
    | false => rw [if_neg (by decide)]; exact new_nf neg ds ex sc w hds he1 he2 hsc hsc2 hc he
end Go.Proofs.Qxb6606268aDoor
