import Derived.Test.Qxb6613227aDoorProg
import Derived.ProofKit
import Derived.WalkMore
import Derived.Handy
import Derived.Deep.AppendSrc
import Derived.Laws.IdiomStrings
import Derived.Laws.IdiomCopy
namespace Go.Proofs.Qxb6613227aDoor
open Go.RowKit
/-- The slice v holds the bytes l, in a block of the call's own (past W's), none of whose cells is frozen; what lay in W is as it was. -/
def Buf (W : World) (v : Value) (l : List UInt8) (w : World) : Prop :=
  ∃ g cap, v = .slice (some ⟨g, 0, none⟩) l.length cap ∧ W.heap.size ≤ g ∧ l.length ≤ cap ∧
    (∀ j, j < cap → (w.cell? ⟨g, j, none⟩).isSome = true ∧ w.frozen? ⟨g, j, none⟩ = false) ∧
    (∀ j (h : j < l.length), w.cell? ⟨g, j, none⟩ = some (.int .u8 (l[j].toNat : Int))) ∧ Below W.heap.size W w
theorem add_at (g o j : Nat) : (⟨g, o, none⟩ : Addr).add j = ⟨g, o + j, none⟩ := by
  unfold Addr.add
  split <;> simp_all
theorem below_cells {B g : Nat} (hg : B ≤ g) : ∀ (vs : List Value) (o : Nat) (w : World), Below B w (w.setCells g o vs)
  | [], _, w => Below.refl B w
  | v :: r, o, w => ((Below.refl B w).setCell (p := ⟨g, o, none⟩) hg v).trans (below_cells hg r (o + 1) _)
theorem Buf.below {W : World} {v : Value} {l : List UInt8} {w w' : World} (h : Buf W v l w) (hb : Below w.heap.size w w') : Buf W v l w' := by
  obtain ⟨g, cap, h1, h2, h3, h4, h5, h6⟩ := h
  refine ⟨g, cap, h1, h2, h3, fun j hj => ?_, fun j hj => ?_, h6.trans (hb.mono h6.size)⟩
  · obtain ⟨u, hu⟩ := Option.isSome_iff_exists.1 (h4 j hj).1
    have hlt := World.block_lt_of_cell? _ _ hu
    refine ⟨by rw [hb.cell hlt]; exact (h4 j hj).1, by rw [hb.frozen hlt]; exact (h4 j hj).2⟩
  · have hlt := World.block_lt_of_cell? _ _ (h5 j hj)
    rw [hb.cell hlt]; exact h5 j hj
theorem info5 : (Tryd.prog.info? 5).map (fun i => (i.zero, i.size, i.bytes)) = some (some (.int .u8 0), 1, 1) := by kernel_rfl
theorem bytes_get (l : List UInt8) (j : Nat) (h : j < l.length) : (l.map fun b => Value.int .u8 (b.toNat : Int))[j]? = some (.int .u8 (l[j].toNat : Int)) := by
  simp [List.getElem?_map, List.getElem?_eq_getElem h]
theorem frozen_row (w : World) (g j : Nat) (C : Array Value) (e : TypeId) (lo hi : Nat) (h : w.heap[g]? = some (.cells C e (lo, hi))) : w.frozen? ⟨g, j, none⟩ = (decide (lo ≤ j) && decide (j < hi)) := by
  simp only [World.frozen?, h]
/-- append(b, s...). -/
theorem Buf.append {W : World} {v : Value} {l : List UInt8} {w : World} (h : Buf W v l w) (s : ByteArray) (hl : l.length + s.size ≤ 140737488355328) (ty : TypeId) :
    ∃ v' w', (Builtin.append_ #[28, 9] ty #[v, .string s]).run Tryd.prog w = .ok v' w' ∧ Buf W v' (l ++ s.data.toList) w' := by
  obtain ⟨i, hi, hz, hs1, hby⟩ := info_parts info5
  have hsl : s.data.toList.length = s.size := by rw [Array.length_toList]; rfl
  obtain ⟨g, cap, rfl, h2, h3, h4, h5, h6⟩ := h
  have hsrc : Src Tryd.prog i.size 9 (.string s) s.size (byteCells s) w := by rw [hs1]; exact Src.ofString w Tryd.underlying9 s
  have hbl : (byteCells s).length = s.size := byteCells_length s
  by_cases hroom : l.length + s.size ≤ cap
  · have hr := run_append_room_src (P := Tryd.prog) w 28 9 ty 5 i Tryd.underlying28 hi g 0 l.length cap (.string s) s.size (byteCells s) hsrc hroom
      (fun j hj => by rw [hs1]; simpa using (h4 (l.length + j) (by omega)).1) (fun j hj => by rw [hs1]; simpa using (h4 (l.length + j) (by omega)).2)
    rw [hs1] at hr
    simp only [Nat.zero_add, Nat.mul_one] at hr
    refine ⟨_, _, hr, g, cap, by rw [List.length_append, hsl], h2, by rw [List.length_append, hsl]; exact hroom, fun j hj => ⟨?_, ?_⟩, fun j hj => ?_, h6.trans (below_cells h2 _ _ _)⟩
    · by_cases hin : l.length ≤ j ∧ j < l.length + s.size
      · have := World.cell?_setCells_in g (byteCells s) l.length w (fun k hk => (h4 (l.length + k) (by omega)).1) (j - l.length) (by omega)
        rw [show l.length + (j - l.length) = j by omega] at this
        rw [this]; rfl
      · rw [World.cell?_setCells_out g _ _ _ _ (fun _ _ => by simp only; omega)]
        exact (h4 j hj).1
    · rw [World.frozen?_setCells]; exact (h4 j hj).2
    · rw [List.length_append, hsl] at hj
      by_cases hin : l.length ≤ j
      · have := World.cell?_setCells_in g (byteCells s) l.length w (fun k hk => (h4 (l.length + k) (by omega)).1) (j - l.length) (by omega)
        rw [show l.length + (j - l.length) = j by omega] at this
        rw [this, List.getElem_append_right hin]
        simp [byteCells]
      · rw [World.cell?_setCells_out g _ _ _ _ (fun _ _ => by simp only; omega), h5 j (by omega), List.getElem_append_left (by omega)]
  · have hold : (Builtin.firstCells i.size l.length (.slice (some ⟨g, 0, none⟩) l.length cap)).run Tryd.prog w.drew = .ok (l.map fun b => Value.int .u8 (b.toNat : Int)).toArray w.drew := by
      rw [hs1]
      refine run_firstCells_some w.drew 1 l.length ⟨g, 0, none⟩ l.length cap _ (by simp) (fun j u hu => ?_)
      have hj : j < l.length := by simpa using (List.getElem?_eq_some_iff.1 hu).1
      rw [bytes_get l j hj] at hu
      rw [← hu, add_at, Nat.zero_add]
      exact h5 j hj
    have hr := run_append_grow_src (P := Tryd.prog) w 28 9 ty 5 i (.int .u8 0) Tryd.underlying28 hi hz (some ⟨g, 0, none⟩) l.length cap _ hold (.string s) s.size (byteCells s) hsrc (by omega) (by omega)
      (growslice_fits (by omega) (by rw [hby]; omega))
    have hge := grownCap_ge w (l.length + s.size) cap 5
    obtain ⟨cp, hcp⟩ : ∃ cp, grownCap w (l.length + s.size) cap 5 = cp := ⟨_, rfl⟩
    rw [hcp] at hr hge
    obtain ⟨C, hC⟩ : ∃ C, ((l.map fun b => Value.int .u8 (b.toNat : Int)) ++ byteCells s).toArray ++ Builtin.zeroCells (Value.int .u8 0).cells (cp - (l.length + s.size)) = C := ⟨_, rfl⟩
    have hCs : C.size = cp := by
      have hz1 : (Value.int IntKind.u8 0).cells.size = 1 := rfl
      rw [← hC]
      simp only [Array.size_append, List.size_toArray, size_zeroCells, hz1, List.length_append, List.length_map, hbl]
      omega
    have hCg : ∀ j (hj : j < (l ++ s.data.toList).length), C[j]? = some (.int .u8 ((l ++ s.data.toList)[j].toNat : Int)) := by
      intro j hj
      have e1 : (l.map fun b => Value.int .u8 (b.toNat : Int)) ++ byteCells s = (l ++ s.data.toList).map fun b => Value.int .u8 (b.toNat : Int) := by simp [byteCells]
      rw [← hC, e1, Array.getElem?_append_left (by simpa using hj)]
      simpa using bytes_get (l ++ s.data.toList) j hj
    rw [hC] at hr
    have hnew := heap_alloc_new w.drew (.cells C 5)
    have hsz : w.drew.heap.size = w.heap.size := rfl
    refine ⟨_, _, hr, w.heap.size, cp, by rw [List.length_append, hsl], h6.size, by rw [List.length_append, hsl]; exact hge, fun j hj => ⟨?_, ?_⟩, fun j hj => ?_, h6.drew.alloc h6.size _⟩
    · rw [cell_of_row _ w.heap.size j C 5 (0, 0) hnew, Array.getElem?_eq_getElem (by omega)]; rfl
    · rw [frozen_row _ w.heap.size j C 5 0 0 hnew]; simp
    · rw [cell_of_row _ w.heap.size j C 5 (0, 0) hnew, hCg j hj]
/-- []byte(s). -/
theorem Buf.start (W : World) (s : ByteArray) : ∃ v w', (convert 9 28 (.string s)).run Tryd.prog W = .ok v w' ∧ Buf W v s.data.toList w' := by
  have hsl : s.data.toList.length = s.size := by rw [Array.length_toList]; rfl
  have hr := run_bytes_of_string (P := Tryd.prog) W 9 28 5 s Tryd.underlying9 Tryd.underlying28 Tryd.underlying5
  have hge := grownCap_ge W s.size 0 5
  obtain ⟨cp, hcp⟩ : ∃ cp, grownCap W s.size 0 5 = cp := ⟨_, rfl⟩
  rw [hcp] at hr hge
  obtain ⟨C, hC⟩ : ∃ C, bytesRow s cp = C := ⟨_, rfl⟩
  have hCs : C.size = cp := by
    rw [← hC, bytesRow, Array.size_append, Array.size_map, Array.size_replicate]
    have : s.data.size = s.size := rfl
    omega
  have hCg : ∀ j (hj : j < s.data.toList.length), C[j]? = some (.int .u8 (s.data.toList[j].toNat : Int)) := by
    intro j hj
    have hj' : j < s.data.size := by simpa using hj
    rw [← hC, bytesRow, Array.getElem?_append_left (by simpa using hj')]
    simp [Array.getElem?_eq_getElem hj']
  rw [hC, hCs] at hr
  have hnew := heap_alloc_new W.drew (.cells C 5 (cp, cp + 1))
  refine ⟨_, _, hr, W.heap.size, cp, by rw [hsl], Nat.le_refl _, by rw [hsl]; exact hge, fun j hj => ⟨?_, ?_⟩, fun j hj => ?_, (Below.refl _ _).drew.alloc (Nat.le_refl _) _⟩
  · rw [cell_of_row _ W.heap.size j C 5 _ hnew, Array.getElem?_eq_getElem (by omega)]; rfl
  · rw [frozen_row _ W.heap.size j C 5 cp (cp + 1) hnew]; simp; omega
  · rw [cell_of_row _ W.heap.size j C 5 _ hnew, hCg j hj]
/-- string(b). -/
theorem Buf.string {W : World} {v : Value} {l : List UInt8} {w : World} (h : Buf W v l w) : (convert 28 9 v).run Tryd.prog w = .ok (.string ⟨l.toArray⟩) w := by
  obtain ⟨g, cap, rfl, h2, h3, h4, h5, h6⟩ := h
  exact run_convert_bytes_back w 28 9 5 ⟨g, 0, none⟩ cap l Tryd.underlying28 Tryd.underlying5 Tryd.underlying9 (fun j hj => by rw [add_at, Nat.zero_add]; exact h5 j hj)
theorem Buf.len {W : World} {v : Value} {l : List UInt8} {w : World} (h : Buf W v l w) : ∃ a cap, v = .slice a l.length cap := by
  obtain ⟨g, cap, h1, _⟩ := h
  exact ⟨_, _, h1⟩
end Go.Proofs.Qxb6613227aDoor
