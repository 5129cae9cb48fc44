import Derived.Test.Qxb6606268aDoorW3
namespace Go.Proofs.Qxb6606268aDoor
open Go.RowKit
theorem as29 (v : Value) (w : World) : (Instr.typeAssert (.iface 29 v) 34 29 true).run Tryd.prog w = .ok (.tuple #[v, .bool true]) w := by kernel_rfl
set_option maxRecDepth 100000 in
set_option maxHeartbeats 1000000 in
theorem key_any (neg : Bool) (ds : ByteArray) (ex sc : Int) (w : World) (he1 : -2000000 ≤ ex) (he2 : ex ≤ 2000000) :
    Calls Tryd.prog 14 #[.iface 29 (.agg #[.bool neg, .string ds, .int .i64 ex, .int .i64 sc])] w fun e w' => e = .returned (.iface 29 (.agg #[.bool neg, .string ds, .int .i64 ex, .int .i64 (max (-ex) 0)])) ∧ Below w.heap.size w w' := by
  have ha := as29 (.agg #[.bool neg, .string ds, .int .i64 ex, .int .i64 sc]) w
  go_enter Tryd.func14, Tryd.ntmps14
  go_wp2
  go_ret
  exact ⟨rfl, (Below.refl _ _).alloc (Nat.le_refl _) _⟩
/-- What nn's result is bounded by. -/
theorem nnOf_bounds (neg : Bool) (d1 : List UInt8) (e1 sc : Int) (hd : d1.length ≤ 1048576) (h1 : -sc ≤ e1) (h2 : e1 ≤ 65536) (hsc : 0 ≤ sc) :
    (nnOf neg d1 e1).2.1.length ≤ 1048576 ∧ -(nnOf neg d1 e1).2.2 ≤ sc ∧ (nnOf neg d1 e1).2.2 ≤ 2000000 ∧
    (((nnOf neg d1 e1).2.1 = [] ∧ (nnOf neg d1 e1).2.2 = 0 ∧ (nnOf neg d1 e1).1 = false) ∨ ((nnOf neg d1 e1).2.1 ≠ [] ∧ (nnOf neg d1 e1).2.1.getLast? ≠ some 48)) ∧ ∀ x ∈ (nnOf neg d1 e1).2.1, x ∈ d1 := by
  have hT1 := trimLeft_len d1 48
  have hT2 := trimRight_len (Lib.trimLeftB d1 48) 48
  unfold nnOf
  cases he : (Lib.trimRightB (Lib.trimLeftB d1 48) 48).isEmpty with
  | true =>
    rw [if_pos rfl]
    exact ⟨by simp, by simpa using hsc, by simp, Or.inl ⟨rfl, rfl, rfl⟩, by simp⟩
  | false =>
    rw [if_neg (by decide)]
    dsimp only
    refine ⟨by omega, by omega, by omega, Or.inr ⟨?_, ?_⟩, ?_⟩
    · intro h
      rw [h] at he; cases he
    · unfold Lib.trimRightB
      rw [List.getLast?_reverse]
      intro h
      cases hl : (List.dropWhile (· == (48 : UInt8)) (Lib.trimLeftB d1 48).reverse) with
      | nil => rw [hl] at h; cases h
      | cons a t =>
        have := List.head?_dropWhile_not (· == (48 : UInt8)) (Lib.trimLeftB d1 48).reverse
        rw [hl] at h this
        simp only [List.head?_cons, Option.some.injEq] at h this
        rw [h] at this
        revert this; decide
    · intro x hx
      unfold Lib.trimRightB at hx
      have h1 := (List.dropWhile_sublist (l := (Lib.trimLeftB d1 48).reverse) (p := (· == (48 : UInt8)))).subset (List.mem_reverse.1 hx)
      have h2 : x ∈ Lib.trimLeftB d1 48 := by simpa using h1
      unfold Lib.trimLeftB at h2
      exact (List.dropWhile_sublist _).subset h2
theorem nn_bounds (neg : Bool) (d : List UInt8) (ex sc : Int) (hd : d.length ≤ 1048576) (h2 : ex ≤ 65536) (hsc : 0 ≤ sc) :
    (nn neg d ex sc).2.1.length ≤ 1048576 ∧ -(nn neg d ex sc).2.2 ≤ sc ∧ (nn neg d ex sc).2.2 ≤ 2000000 ∧
    (((nn neg d ex sc).2.1 = [] ∧ (nn neg d ex sc).2.2 = 0 ∧ (nn neg d ex sc).1 = false) ∨ ((nn neg d ex sc).2.1 ≠ [] ∧ (nn neg d ex sc).2.1.getLast? ≠ some 48)) ∧ ∀ x ∈ (nn neg d ex sc).2.1, x ∈ d := by
  unfold nn
  by_cases hc : 0 < -sc - ex
  · rw [if_pos hc]
    obtain ⟨a, b, c, e, f⟩ := nnOf_bounds neg (d.take (max (d.length - (-sc - ex)) 0).toNat) (-sc) sc (by rw [List.length_take]; omega) (Int.le_refl _) (by omega) hsc
    exact ⟨a, b, c, e, fun x hx => List.mem_of_mem_take (f x hx)⟩
  · rw [if_neg hc]
    exact nnOf_bounds neg d ex sc hd (by omega) h2 hsc
set_option maxRecDepth 100000 in
set_option maxHeartbeats 1000000 in
theorem zzstring_any (neg : Bool) (ds : ByteArray) (ex sc : Int) (w : World) (hds : (ds.size : Int) ≤ 1048576) (he1 : -65536 ≤ ex) (he2 : ex ≤ 65536) (hsc : 0 ≤ sc) (hsc2 : sc ≤ 65536) :
    Calls Tryd.prog 8 #[.bool neg, .string ds, .int .i64 ex, .int .i64 sc] w fun e w' => e = .returned (.string (bytesL (numS (nn neg ds.data.toList ex sc).1 (nn neg ds.data.toList ex sc).2.1 (nn neg ds.data.toList ex sc).2.2 sc))) ∧ Below w.heap.size w w' := by
  have hN := new_any neg ds ex sc w hds he1 he2 hsc hsc2
  obtain ⟨b1, b2, b3, _, _⟩ := nn_bounds neg ds.data.toList ex sc (by rw [len_list]; omega) he2 hsc
  obtain ⟨r, hr⟩ : ∃ r, nn neg ds.data.toList ex sc = r := ⟨_, rfl⟩
  rw [hr] at hN b1 b2 b3 ⊢
  clear hr
  obtain ⟨r1, r2, r3⟩ := r
  dsimp only at b1 b2 b3 ⊢
  have HN : Hid (Calls Tryd.prog 12 #[.bool neg, .string ds, .int .i64 ex, .int .i64 sc] w fun e w' => e = .returned (.agg #[.bool r1, .string (bytesL r2), .int .i64 r3, .int .i64 sc]) ∧ Below w.heap.size w w') := hN
  have HS : Hid (∀ w, Calls Tryd.prog 13 #[.agg #[.bool r1, .string (bytesL r2), .int .i64 r3, .int .i64 sc]] w fun e w' => e = .returned (.string (bytesL (numS r1 r2 r3 sc))) ∧ Below w.heap.size w w') := fun w => by
    have := string_any r1 (bytesL r2) r3 sc w (by rw [bytesL_size]; omega) b2 b3 hsc hsc2
    rw [bytesL_list] at this; exact this
  clear hN b1 b2 b3 hds
  go_enter Tryd.func8, Tryd.ntmps8
  go_wp2_with fail
  refine HN.out.mono ?_
  rintro e w1 ⟨rfl, hb1⟩
  go_wp2_with fail
  refine (HS.out _).mono ?_
  rintro e w2 ⟨rfl, hb2⟩
  go_wp2
  go_ret
  exact ⟨rfl, hb1.trans (hb2.mono hb1.size)⟩
set_option maxRecDepth 100000 in
set_option maxHeartbeats 1000000 in
theorem zzkey_any (neg : Bool) (ds : ByteArray) (ex sc : Int) (w : World) (hds : (ds.size : Int) ≤ 1048576) (he1 : -65536 ≤ ex) (he2 : ex ≤ 65536) (hsc : 0 ≤ sc) (hsc2 : sc ≤ 65536) :
    Calls Tryd.prog 9 #[.bool neg, .string ds, .int .i64 ex, .int .i64 sc] w fun e w' => e = .returned (.tuple #[.string (bytesL (numS (nn neg ds.data.toList ex sc).1 (nn neg ds.data.toList ex sc).2.1 (nn neg ds.data.toList ex sc).2.2 (max (-(nn neg ds.data.toList ex sc).2.2) 0))), .bool true]) ∧ Below w.heap.size w w' := by
  have hN := new_any neg ds ex sc w hds he1 he2 hsc hsc2
  obtain ⟨b1, b2, b3, _, _⟩ := nn_bounds neg ds.data.toList ex sc (by rw [len_list]; omega) he2 hsc
  obtain ⟨r, hr⟩ : ∃ r, nn neg ds.data.toList ex sc = r := ⟨_, rfl⟩
  rw [hr] at hN b1 b2 b3 ⊢
  clear hr
  obtain ⟨r1, r2, r3⟩ := r
  dsimp only at b1 b2 b3 ⊢
  have HN : Hid (Calls Tryd.prog 12 #[.bool neg, .string ds, .int .i64 ex, .int .i64 sc] w fun e w' => e = .returned (.agg #[.bool r1, .string (bytesL r2), .int .i64 r3, .int .i64 sc]) ∧ Below w.heap.size w w') := hN
  have HK : Hid (∀ w, Calls Tryd.prog 14 #[.iface 29 (.agg #[.bool r1, .string (bytesL r2), .int .i64 r3, .int .i64 sc])] w fun e w' => e = .returned (.iface 29 (.agg #[.bool r1, .string (bytesL r2), .int .i64 r3, .int .i64 (max (-r3) 0)])) ∧ Below w.heap.size w w') := fun w =>
    key_any r1 (bytesL r2) r3 sc w (by omega) b3
  have HS : Hid (∀ w, Calls Tryd.prog 13 #[.agg #[.bool r1, .string (bytesL r2), .int .i64 r3, .int .i64 (max (-r3) 0)]] w fun e w' => e = .returned (.string (bytesL (numS r1 r2 r3 (max (-r3) 0)))) ∧ Below w.heap.size w w') := fun w => by
    have := string_any r1 (bytesL r2) r3 (max (-r3) 0) w (by rw [bytesL_size]; omega) (by omega) b3 (by omega) (by omega)
    rw [bytesL_list] at this; exact this
  have HA : ∀ w, (Instr.typeAssert (.iface 29 (.agg #[.bool r1, .string (bytesL r2), .int .i64 r3, .int .i64 (max (-r3) 0)])) 34 29 true).run Tryd.prog w = .ok (.tuple #[.agg #[.bool r1, .string (bytesL r2), .int .i64 r3, .int .i64 (max (-r3) 0)], .bool true]) w := fun w => as29 _ w
  clear hN b1 b2 b3 hds
  go_enter Tryd.func9, Tryd.ntmps9
  go_wp2_with fail
  refine HN.out.mono ?_
  rintro e w1 ⟨rfl, hb1⟩
  go_wp2_with fail
  refine (HK.out _).mono ?_
  rintro e w2 ⟨rfl, hb2⟩
  have ha := HA w2
  clear HA
  go_wp2_with fail
  refine (HS.out _).mono ?_
  rintro e w3 ⟨rfl, hb3⟩
  go_wp2
  go_ret2
  exact ⟨rfl, (hb1.trans (hb2.mono hb1.size)).trans (((Below.refl _ w2).alloc (Nat.le_refl _) _).trans (hb3.mono (by simp)) |>.mono (by have := hb1.size; have := hb2.size; omega))⟩
end Go.Proofs.Qxb6606268aDoor
