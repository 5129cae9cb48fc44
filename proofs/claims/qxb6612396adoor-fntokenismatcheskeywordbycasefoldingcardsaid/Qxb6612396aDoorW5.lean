import Derived.Test.Qxb6612396aDoorW4
namespace Go.Proofs.Qxb6612396aDoor
open Go.RowKit
theorem Tab.below {w w' : World} (h : Tab w) (hb : Below w.heap.size w w') : Tab w' where
  fold := fun r hr => by
    have hc := h.fold r hr
    rw [hb.cell (World.block_lt_of_cell? _ _ hc)]; exact hc
  orb := by
    obtain ⟨blk, off, cap, h1, h2⟩ := h.orb
    refine ⟨blk, off, cap, ?_, fun i hi => ⟨?_, ?_⟩⟩
    · rw [hb.cell (World.block_lt_of_cell? _ _ h1)]; exact h1
    · have hc := (h2 i hi).1
      rw [hb.cell (World.block_lt_of_cell? _ _ hc)]; exact hc
    · have hc := (h2 i hi).2
      rw [hb.cell (World.block_lt_of_cell? _ _ hc)]; exact hc
theorem Tab.alloc {w : World} (h : Tab w) (o : Obj) : Tab (w.alloc o) := h.below ((Below.refl w.heap.size w).alloc (Nat.le_refl _) o)
set_option maxRecDepth 100000 in
set_option maxHeartbeats 1000000 in
theorem is_any (kd : Int) (s t : ByteArray) (a b d : Int) (w : World) (hT : Tab w) (hs : s.size ≤ 1048576) (ht : t.size ≤ 1048576) (hA : Asc t) :
    Calls Tryd.prog 12 #[.agg #[.int .u8 kd, .string s, .int .i64 a, .int .i64 b, .int .i64 d], .string t] w fun e w' => e = .returned (.bool ((kd == 1) && folds s.data.toList t.data.toList)) ∧ Below w.heap.size w w' := by
  have hTa : Tab (w.alloc (.cells #[.int .u8 kd, .string s, .int .i64 a, .int .i64 b, .int .i64 d] 28)) := hT.alloc _
  have HC : Hid (Calls Tryd.prog 14 #[.string s, .string t] (w.alloc (.cells #[.int .u8 kd, .string s, .int .i64 a, .int .i64 b, .int .i64 d] 28)) fun e w' => e = .returned (.bool (folds s.data.toList t.data.toList)) ∧ Below w.heap.size w w') :=
    (equal_any s t _ hTa hs ht hA).mono fun e w' h => ⟨h.1, ((Below.refl w.heap.size w).alloc (Nat.le_refl _) _).trans (h.2.mono (by simp))⟩
  clear hT hTa hA
  cases hk : (kd == 1) with
  | true =>
    go_enter Tryd.func12, Tryd.ntmps12
    go_wp2_with fail
    refine HC.out.mono ?_
    rintro e w1 ⟨rfl, hb⟩
    go_wp2
    go_ret
    exact ⟨rfl, hb⟩
  | false =>
    go_enter Tryd.func12, Tryd.ntmps12
    go_wp2
    go_ret
    exact ⟨rfl, (Below.refl _ _).alloc (Nat.le_refl _) _⟩
set_option maxRecDepth 100000 in
set_option maxHeartbeats 1000000 in
theorem tokenIs_any (kd : Int) (s t : ByteArray) (a b d : Int) (w : World) (hT : Tab w) (hs : s.size ≤ 1048576) (ht : t.size ≤ 1048576) (hA : Asc t) :
    Calls Tryd.prog 7 #[.int .u8 kd, .string s, .int .i64 a, .int .i64 b, .int .i64 d, .string t] w fun e w' => e = .returned (.bool ((kd == 1) && folds s.data.toList t.data.toList)) ∧ Below w.heap.size w w' := by
  have HC : Hid (Calls Tryd.prog 12 #[.agg #[.int .u8 kd, .string s, .int .i64 a, .int .i64 b, .int .i64 d], .string t] w fun e w' => e = .returned (.bool ((kd == 1) && folds s.data.toList t.data.toList)) ∧ Below w.heap.size w w') := is_any kd s t a b d w hT hs ht hA
  clear hT hA
  go_enter Tryd.func7, Tryd.ntmps7
  go_wp2_with fail
  refine HC.out.mono ?_
  rintro e w1 ⟨rfl, hb⟩
  go_wp2
  go_ret
  exact ⟨rfl, hb⟩
end Go.Proofs.Qxb6612396aDoor
