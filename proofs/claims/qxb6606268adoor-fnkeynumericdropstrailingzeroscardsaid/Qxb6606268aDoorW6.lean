import Derived.Test.Qxb6606268aDoorPlain
namespace Go.Proofs.Qxb6606268aDoor
open Go.RowKit
set_option maxRecDepth 100000 in
set_option maxHeartbeats 1000000 in
theorem zzbytes_any (neg : Bool) (ds : ByteArray) (ex sc : Int) (w : World) :
    Calls Tryd.prog 7 #[.bool neg, .string ds, .int .i64 ex, .int .i64 sc] w fun e w' => (∃ b, e = .returned (.bool b)) ∧ w' = w := by
  go_enter Tryd.func7, Tryd.ntmps7
  go_wp2
  all_goals
    go_ret
    exact ⟨⟨_, rfl⟩, rfl⟩
theorem numS_len (neg : Bool) (d : List UInt8) (ex sc : Int) (hd : d.length ≤ 1048576) (h1 : -ex ≤ sc) (h2 : ex ≤ 2000000) (h3 : sc ≤ 65536) (h4 : 0 ≤ sc) : (numS neg d ex sc).length ≤ 100000000 := by
  unfold numS
  simp only [List.length_append, List.length_take, List.length_replicate]
  have e1 : ((if neg then [45] else [] : List UInt8)).length ≤ 1 := by split <;> simp
  have e2 : ((if ex + (d.length : Int) ≤ 0 then [48] else [] : List UInt8)).length ≤ 1 := by split <;> simp
  have e3 : ((if 0 < sc then [46] ++ List.replicate (max (-(ex + (d.length : Int))) 0).toNat 48 ++ d.drop (min (max (ex + (d.length : Int)) 0) (d.length : Int)).toNat ++ List.replicate (sc - max (-ex) 0).toNat 48 else [] : List UInt8)).length ≤ 4000000 := by
    split
    · simp only [List.length_append, List.length_drop, List.length_replicate, List.length_singleton]; omega
    · simp
  omega
set_option maxRecDepth 100000 in
set_option maxHeartbeats 2000000 in
theorem law_in (neg : Bool) (ds : ByteArray) (ex sc : Int) (w : World) (hds : (ds.size : Int) ≤ 1048576) (he1 : -65536 ≤ ex) (he2 : ex ≤ 65536) (hsc : 0 ≤ sc) (hsc2 : sc ≤ 65536) :
    Calls Tryd.prog 4 #[.bool neg, .string ds, .int .i64 ex, .int .i64 sc] w fun e w' => e = .returned (.bool true) ∧ Below w.heap.size w w' := by
  go_enter Tryd.func4, Tryd.ntmps4
  go_wp2_with (go_at_call 7; refine (zzbytes_any _ _ _ _ _).mono ?_; rintro e w' ⟨⟨b, rfl⟩, hw⟩; replace hw := hw.symm; subst hw)
  · go_ret
    exact ⟨rfl, Below.refl _ _⟩
  · go_loop [9] (fun i => ∃ k : Nat, k ≤ ds.size ∧ i = .int .i64 k ∧ Hid (∀ (j : Nat) (h : j < ds.size), j < k → 48 ≤ ds[j].toNat ∧ ds[j].toNat ≤ 57)) (fun i => ds.size - (intOf i).toNat)
    case atStart => exact ⟨0, by omega, by go_num, fun j _ h => by omega⟩
    case round =>
      obtain ⟨k, hk, rfl, hr⟩ := hrel
      by_cases hlt : k < ds.size
      · by_cases h48 : (ds[k].toNat : Int) < 48
        · go_wp2
          go_ret
          exact ⟨rfl, Below.refl _ _⟩
        · by_cases h57 : (57 : Int) < (ds[k].toNat : Int)
          · go_wp2
            go_ret
            exact ⟨rfl, Below.refl _ _⟩
          · have hr2 : Hid (∀ (j : Nat) (h : j < ds.size), j < k + 1 → 48 ≤ ds[j].toNat ∧ ds[j].toNat ≤ 57) := by
              intro j h hj
              by_cases e : j = k
              · subst e; omega
              · exact hr.out j h (by omega)
            go_wp2_with fail
            go_round
            case rel => exact ⟨k + 1, by omega, by go_num, hr2⟩
            case measure => simp [intOf]; omega
      · have hks : k = ds.size := by omega
        have hdig : ∀ x ∈ ds.data.toList, x ≠ 46 := by
          intro x hx e
          obtain ⟨j, hj, e2⟩ := List.getElem_of_mem hx
          rw [len_list] at hj
          have h3 := get_list ds j hj
          rw [List.getElem?_eq_getElem (by rw [len_list]; exact hj), e2, e] at h3
          have h4 := hr.out j hj (by omega)
          rw [← Option.some.inj h3] at h4
          have : (46 : UInt8).toNat = 46 := rfl
          omega
        obtain ⟨b1, b2, b3, b4, b5⟩ := nn_bounds neg ds.data.toList ex sc (by rw [len_list]; omega) he2 hsc
        have hz1 := zzstring_any neg ds ex sc w hds he1 he2 hsc hsc2
        have hz2 := fun w => zzkey_any neg ds ex sc w hds he1 he2 hsc hsc2
        obtain ⟨r, hrr⟩ : ∃ r, nn neg ds.data.toList ex sc = r := ⟨_, rfl⟩
        rw [hrr] at b1 b2 b3 b4 b5 hz1
        simp only [hrr] at hz2
        clear hrr hr
        obtain ⟨r1, r2, r3⟩ := r
        dsimp only at b1 b2 b3 b4 b5 hz1 hz2
        have hp := plain r1 r2 r3 sc hsc b2 b4 (fun x hx => hdig x (b5 x hx))
        have hln := numS_len r1 r2 r3 sc b1 b2 b3 hsc2 hsc
        have HZ1 : Hid (Calls Tryd.prog 8 #[.bool neg, .string ds, .int .i64 ex, .int .i64 sc] w fun e w' => e = .returned (.string (bytesL (numS r1 r2 r3 sc))) ∧ Below w.heap.size w w') := hz1
        have HZ2 : Hid (∀ w, Calls Tryd.prog 9 #[.bool neg, .string ds, .int .i64 ex, .int .i64 sc] w fun e w' => e = .returned (.tuple #[.string (bytesL (numS r1 r2 r3 (max (-r3) 0))), .bool true]) ∧ Below w.heap.size w w') := hz2
        have HW : Hid (∀ w, Calls Tryd.prog 10 #[.string (bytesL (numS r1 r2 r3 sc))] w fun e w' => e = .returned (.string (bytesL (numS r1 r2 r3 (max (-r3) 0)))) ∧ w' = w) := fun w => by
          have := wtz_any (bytesL (numS r1 r2 r3 sc)) w (by rw [bytesL_size]; exact hln)
          rw [bytesL_list, hp] at this
          exact this
        clear hp hln hz1 hz2 b1 b2 b3 b4 b5 hdig
        go_wp2_with fail
        refine HZ1.out.mono ?_
        rintro e w1 ⟨rfl, hb1⟩
        go_wp2_with fail
        refine (HZ2.out _).mono ?_
        rintro e w2 ⟨rfl, hb2⟩
        have HB : Hid (Below w.heap.size w w2) := hb1.trans (hb2.mono hb1.size)
        clear hb1 hb2
        go_wp2_with (go_at_call 10; refine (HW.out _).mono ?_; rintro e w' ⟨rfl, hw⟩; replace hw := hw.symm; subst hw)
        go_ret
        refine ⟨?_, HB.out⟩
        first | rfl | exact congrArg (fun b => Ending.returned (Value.bool b)) (beq_self_eq_true (bytesL (numS r1 r2 r3 (max (-r3) 0))).toList)
set_option maxRecDepth 100000 in
set_option maxHeartbeats 2000000 in
theorem law_out (neg : Bool) (ds : ByteArray) (ex sc : Int) (w : World) (h : (1048576 : Int) < (ds.size : Int) ∨ ((ds.size : Int) ≤ 1048576 ∧ (ex < -65536 ∨ (-65536 ≤ ex ∧ (65536 < ex ∨ (ex ≤ 65536 ∧ (sc < 0 ∨ (0 ≤ sc ∧ 65536 < sc)))))))) :
    Calls Tryd.prog 4 #[.bool neg, .string ds, .int .i64 ex, .int .i64 sc] w fun e w' => e = .returned (.bool true) ∧ Below w.heap.size w w' := by
  rcases h with h1 | ⟨h0, h1 | ⟨h2, h1 | ⟨h3, h1 | ⟨h4, h1⟩⟩⟩⟩
  all_goals
    go_enter Tryd.func4, Tryd.ntmps4
    go_wp2_with (go_at_call 7; refine (zzbytes_any _ _ _ _ _).mono ?_; rintro e w' ⟨⟨b, rfl⟩, hw⟩; replace hw := hw.symm; subst hw)
    all_goals
      go_ret
      exact ⟨rfl, Below.refl _ _⟩
/-- THE LAW answers true at every input, and nothing that was there is turned. -/
theorem law_any (neg : Bool) (ds : ByteArray) (ex sc : Int) (w : World) :
    Calls Tryd.prog 4 #[.bool neg, .string ds, .int .i64 ex, .int .i64 sc] w fun e w' => e = .returned (.bool true) ∧ Below w.heap.size w w' := by
  by_cases h : (ds.size : Int) ≤ 1048576 ∧ -65536 ≤ ex ∧ ex ≤ 65536 ∧ 0 ≤ sc ∧ sc ≤ 65536
  · exact law_in neg ds ex sc w h.1 h.2.1 h.2.2.1 h.2.2.2.1 h.2.2.2.2
  · exact law_out neg ds ex sc w (by omega)
end Go.Proofs.Qxb6606268aDoor
