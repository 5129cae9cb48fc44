import Derived.Test.Qxb6613210aGreatFmtFmt
import Derived.Deep.Light
namespace Go.Proofs.Qxb6613210aGreatFmt
open Go.RowKit Go.Extern.Stop Go.Stop Go.Extern

/-- All that was there is there still, but for block L. -/
structure Kept (L : Nat) (w w' : World) : Prop where
  os : w'.os = w.os
  tape : w'.tape = w.tape
  output : w'.output = w.output
  size : w.heap.size ≤ w'.heap.size
  block : ∀ k, k < w.heap.size → k ≠ L → w'.heap[k]? = w.heap[k]?

theorem Kept.refl (L : Nat) (w : World) : Kept L w w := ⟨rfl, rfl, rfl, Nat.le_refl _, fun _ _ _ => rfl⟩
theorem Kept.trans {L : Nat} {a b c : World} (h : Kept L a b) (k : Kept L b c) : Kept L a c :=
  ⟨k.os.trans h.os, k.tape.trans h.tape, k.output.trans h.output, Nat.le_trans h.size k.size, fun i hi hn => (k.block i (by have := h.size; omega) hn).trans (h.block i hi hn)⟩
theorem Kept.of_below {L : Nat} {a b : World} (h : Below a.heap.size a b) : Kept L a b := ⟨h.os, h.tape, h.output, h.size, fun k hk _ => h.block k hk⟩
theorem Kept.drew {L : Nat} {a b : World} (h : Kept L a b) : Kept L a b.drew := ⟨h.os, h.tape, h.output, h.size, h.block⟩
theorem Kept.alloc {L : Nat} {a b : World} (h : Kept L a b) (o : Obj) : Kept L a (b.alloc o) :=
  h.trans (Kept.of_below ((Below.refl _ _).alloc (Nat.le_refl _) o))
theorem Kept.set {L : Nat} {a b : World} (h : Kept L a b) (o : Nat) (v : Value) : Kept L a (b.setCell ⟨L, o, none⟩ v) :=
  h.trans ⟨rfl, rfl, rfl, by simp [World.setCell], fun k _ hn => Below.heap_setCell _ _ _ _ hn⟩
theorem Kept.cell {L : Nat} {w w' : World} (h : Kept L w w') {p : Addr} (hp : p.block < w.heap.size) (hn : p.block ≠ L) : w'.cell? p = w.cell? p := World.cell?_of_block (w := w) (h.block p.block hp hn)

/-- The lexer's fifteen cells. -/
def Lx (L : Nat) (c0 c1 c2 c3 c4 c5 c6 c7 c8 c9 c10 c11 c12 c13 c14 : Value) (w : World) : Prop :=
  w.heap[L]? = some (.cells #[c0, c1, c2, c3, c4, c5, c6, c7, c8, c9, c10, c11, c12, c13, c14] 56 (0, 0))

theorem Lx.lt {L : Nat} {c0 c1 c2 c3 c4 c5 c6 c7 c8 c9 c10 c11 c12 c13 c14 : Value} {w : World} (h : Lx L c0 c1 c2 c3 c4 c5 c6 c7 c8 c9 c10 c11 c12 c13 c14 w) : L < w.heap.size := by
  rcases Nat.lt_or_ge L w.heap.size with hh | hh
  · exact hh
  · unfold Lx at h; rw [Array.getElem?_eq_none hh] at h; cases h
theorem Lx.below {L : Nat} {c0 c1 c2 c3 c4 c5 c6 c7 c8 c9 c10 c11 c12 c13 c14 : Value} {w w' : World} (h : Lx L c0 c1 c2 c3 c4 c5 c6 c7 c8 c9 c10 c11 c12 c13 c14 w) (hb : Below w.heap.size w w') : Lx L c0 c1 c2 c3 c4 c5 c6 c7 c8 c9 c10 c11 c12 c13 c14 w' := by
  have := h.lt
  unfold Lx at h ⊢
  rw [hb.block L this]; exact h
theorem Lx.alloc {L : Nat} {c0 c1 c2 c3 c4 c5 c6 c7 c8 c9 c10 c11 c12 c13 c14 : Value} {w : World} (h : Lx L c0 c1 c2 c3 c4 c5 c6 c7 c8 c9 c10 c11 c12 c13 c14 w) (o : Obj) : Lx L c0 c1 c2 c3 c4 c5 c6 c7 c8 c9 c10 c11 c12 c13 c14 (w.alloc o) :=
  h.below ((Below.refl _ _).alloc (Nat.le_refl _) o)
theorem Lx.drew {L : Nat} {c0 c1 c2 c3 c4 c5 c6 c7 c8 c9 c10 c11 c12 c13 c14 : Value} {w : World} (h : Lx L c0 c1 c2 c3 c4 c5 c6 c7 c8 c9 c10 c11 c12 c13 c14 w) : Lx L c0 c1 c2 c3 c4 c5 c6 c7 c8 c9 c10 c11 c12 c13 c14 w.drew := h
theorem heap_set {w : World} {L o : Nat} {cs : Array Value} {t : TypeId} {fz : Nat × Nat} (h : w.heap[L]? = some (.cells cs t fz)) (u : Value) : (w.setCell ⟨L, o, none⟩ u).heap[L]? = some (.cells (cs.setIfInBounds o u) t fz) := by
  simp [World.setCell, Array.getElem?_modify, h]
theorem heap_new2 (w : World) (o1 o2 : Obj) {N : Nat} (h : w.heap.size = N) : ((w.alloc o1).alloc o2).heap[N + 1]? = some o2 := by
  subst h
  show ((w.heap.push o1).push o2)[w.heap.size + 1]? = _
  have : w.heap.size + 1 = (w.heap.push o1).size := by simp
  rw [this, Array.getElem?_push_size]
theorem Lx.set1 {L : Nat} {c0 c1 c2 c3 c4 c5 c6 c7 c8 c9 c10 c11 c12 c13 c14 : Value} {w : World} (h : Lx L c0 c1 c2 c3 c4 c5 c6 c7 c8 c9 c10 c11 c12 c13 c14 w) (x : Value) : Lx L c0 x c2 c3 c4 c5 c6 c7 c8 c9 c10 c11 c12 c13 c14 (w.setCell ⟨L, 1, none⟩ x) := by
  unfold Lx at h ⊢; rw [heap_set h]; rfl
theorem Lx.set4 {L : Nat} {c0 c1 c2 c3 c4 c5 c6 c7 c8 c9 c10 c11 c12 c13 c14 : Value} {w : World} (h : Lx L c0 c1 c2 c3 c4 c5 c6 c7 c8 c9 c10 c11 c12 c13 c14 w) (x : Value) : Lx L c0 c1 c2 c3 x c5 c6 c7 c8 c9 c10 c11 c12 c13 c14 (w.setCell ⟨L, 4, none⟩ x) := by
  unfold Lx at h ⊢; rw [heap_set h]; rfl
theorem Lx.set5 {L : Nat} {c0 c1 c2 c3 c4 c5 c6 c7 c8 c9 c10 c11 c12 c13 c14 : Value} {w : World} (h : Lx L c0 c1 c2 c3 c4 c5 c6 c7 c8 c9 c10 c11 c12 c13 c14 w) (x : Value) : Lx L c0 c1 c2 c3 c4 x c6 c7 c8 c9 c10 c11 c12 c13 c14 (w.setCell ⟨L, 5, none⟩ x) := by
  unfold Lx at h ⊢; rw [heap_set h]; rfl
theorem Lx.set6 {L : Nat} {c0 c1 c2 c3 c4 c5 c6 c7 c8 c9 c10 c11 c12 c13 c14 : Value} {w : World} (h : Lx L c0 c1 c2 c3 c4 c5 c6 c7 c8 c9 c10 c11 c12 c13 c14 w) (x : Value) : Lx L c0 c1 c2 c3 c4 c5 x c7 c8 c9 c10 c11 c12 c13 c14 (w.setCell ⟨L, 6, none⟩ x) := by
  unfold Lx at h ⊢; rw [heap_set h]; rfl
theorem Lx.set7 {L : Nat} {c0 c1 c2 c3 c4 c5 c6 c7 c8 c9 c10 c11 c12 c13 c14 : Value} {w : World} (h : Lx L c0 c1 c2 c3 c4 c5 c6 c7 c8 c9 c10 c11 c12 c13 c14 w) (x : Value) : Lx L c0 c1 c2 c3 c4 c5 c6 x c8 c9 c10 c11 c12 c13 c14 (w.setCell ⟨L, 7, none⟩ x) := by
  unfold Lx at h ⊢; rw [heap_set h]; rfl
theorem Lx.set8 {L : Nat} {c0 c1 c2 c3 c4 c5 c6 c7 c8 c9 c10 c11 c12 c13 c14 : Value} {w : World} (h : Lx L c0 c1 c2 c3 c4 c5 c6 c7 c8 c9 c10 c11 c12 c13 c14 w) (x : Value) : Lx L c0 c1 c2 c3 c4 c5 c6 c7 x c9 c10 c11 c12 c13 c14 (w.setCell ⟨L, 8, none⟩ x) := by
  unfold Lx at h ⊢; rw [heap_set h]; rfl
theorem Lx.set9 {L : Nat} {c0 c1 c2 c3 c4 c5 c6 c7 c8 c9 c10 c11 c12 c13 c14 : Value} {w : World} (h : Lx L c0 c1 c2 c3 c4 c5 c6 c7 c8 c9 c10 c11 c12 c13 c14 w) (x : Value) : Lx L c0 c1 c2 c3 c4 c5 c6 c7 c8 x c10 c11 c12 c13 c14 (w.setCell ⟨L, 9, none⟩ x) := by
  unfold Lx at h ⊢; rw [heap_set h]; rfl
theorem Lx.set10 {L : Nat} {c0 c1 c2 c3 c4 c5 c6 c7 c8 c9 c10 c11 c12 c13 c14 : Value} {w : World} (h : Lx L c0 c1 c2 c3 c4 c5 c6 c7 c8 c9 c10 c11 c12 c13 c14 w) (x : Value) : Lx L c0 c1 c2 c3 c4 c5 c6 c7 c8 c9 x c11 c12 c13 c14 (w.setCell ⟨L, 10, none⟩ x) := by
  unfold Lx at h ⊢; rw [heap_set h]; rfl
theorem Lx.set11 {L : Nat} {c0 c1 c2 c3 c4 c5 c6 c7 c8 c9 c10 c11 c12 c13 c14 : Value} {w : World} (h : Lx L c0 c1 c2 c3 c4 c5 c6 c7 c8 c9 c10 c11 c12 c13 c14 w) (x : Value) : Lx L c0 c1 c2 c3 c4 c5 c6 c7 c8 c9 c10 x c12 c13 c14 (w.setCell ⟨L, 11, none⟩ x) := by
  unfold Lx at h ⊢; rw [heap_set h]; rfl
theorem Lx.set12 {L : Nat} {c0 c1 c2 c3 c4 c5 c6 c7 c8 c9 c10 c11 c12 c13 c14 : Value} {w : World} (h : Lx L c0 c1 c2 c3 c4 c5 c6 c7 c8 c9 c10 c11 c12 c13 c14 w) (x : Value) : Lx L c0 c1 c2 c3 c4 c5 c6 c7 c8 c9 c10 c11 x c13 c14 (w.setCell ⟨L, 12, none⟩ x) := by
  unfold Lx at h ⊢; rw [heap_set h]; rfl
theorem Lx.set14 {L : Nat} {c0 c1 c2 c3 c4 c5 c6 c7 c8 c9 c10 c11 c12 c13 c14 : Value} {w : World} (h : Lx L c0 c1 c2 c3 c4 c5 c6 c7 c8 c9 c10 c11 c12 c13 c14 w) (x : Value) : Lx L c0 c1 c2 c3 c4 c5 c6 c7 c8 c9 c10 c11 c12 c13 x (w.setCell ⟨L, 14, none⟩ x) := by
  unfold Lx at h ⊢; rw [heap_set h]; rfl
theorem Lx.at0 {L : Nat} {c0 c1 c2 c3 c4 c5 c6 c7 c8 c9 c10 c11 c12 c13 c14 : Value} {w : World} (h : Lx L c0 c1 c2 c3 c4 c5 c6 c7 c8 c9 c10 c11 c12 c13 c14 w) : w.cell? ⟨L, 0, none⟩ = some c0 ∧ w.frozen? ⟨L, 0, none⟩ = false := by
  unfold Lx at h; exact ⟨by simp [World.cell?, h], by simp [World.frozen?, h]⟩
theorem Lx.at1 {L : Nat} {c0 c1 c2 c3 c4 c5 c6 c7 c8 c9 c10 c11 c12 c13 c14 : Value} {w : World} (h : Lx L c0 c1 c2 c3 c4 c5 c6 c7 c8 c9 c10 c11 c12 c13 c14 w) : w.cell? ⟨L, 1, none⟩ = some c1 ∧ w.frozen? ⟨L, 1, none⟩ = false := by
  unfold Lx at h; exact ⟨by simp [World.cell?, h], by simp [World.frozen?, h]⟩
theorem Lx.at2 {L : Nat} {c0 c1 c2 c3 c4 c5 c6 c7 c8 c9 c10 c11 c12 c13 c14 : Value} {w : World} (h : Lx L c0 c1 c2 c3 c4 c5 c6 c7 c8 c9 c10 c11 c12 c13 c14 w) : w.cell? ⟨L, 2, none⟩ = some c2 ∧ w.frozen? ⟨L, 2, none⟩ = false := by
  unfold Lx at h; exact ⟨by simp [World.cell?, h], by simp [World.frozen?, h]⟩
theorem Lx.at3 {L : Nat} {c0 c1 c2 c3 c4 c5 c6 c7 c8 c9 c10 c11 c12 c13 c14 : Value} {w : World} (h : Lx L c0 c1 c2 c3 c4 c5 c6 c7 c8 c9 c10 c11 c12 c13 c14 w) : w.cell? ⟨L, 3, none⟩ = some c3 ∧ w.frozen? ⟨L, 3, none⟩ = false := by
  unfold Lx at h; exact ⟨by simp [World.cell?, h], by simp [World.frozen?, h]⟩
theorem Lx.at4 {L : Nat} {c0 c1 c2 c3 c4 c5 c6 c7 c8 c9 c10 c11 c12 c13 c14 : Value} {w : World} (h : Lx L c0 c1 c2 c3 c4 c5 c6 c7 c8 c9 c10 c11 c12 c13 c14 w) : w.cell? ⟨L, 4, none⟩ = some c4 ∧ w.frozen? ⟨L, 4, none⟩ = false := by
  unfold Lx at h; exact ⟨by simp [World.cell?, h], by simp [World.frozen?, h]⟩
theorem Lx.at5 {L : Nat} {c0 c1 c2 c3 c4 c5 c6 c7 c8 c9 c10 c11 c12 c13 c14 : Value} {w : World} (h : Lx L c0 c1 c2 c3 c4 c5 c6 c7 c8 c9 c10 c11 c12 c13 c14 w) : w.cell? ⟨L, 5, none⟩ = some c5 ∧ w.frozen? ⟨L, 5, none⟩ = false := by
  unfold Lx at h; exact ⟨by simp [World.cell?, h], by simp [World.frozen?, h]⟩
theorem Lx.at6 {L : Nat} {c0 c1 c2 c3 c4 c5 c6 c7 c8 c9 c10 c11 c12 c13 c14 : Value} {w : World} (h : Lx L c0 c1 c2 c3 c4 c5 c6 c7 c8 c9 c10 c11 c12 c13 c14 w) : w.cell? ⟨L, 6, none⟩ = some c6 ∧ w.frozen? ⟨L, 6, none⟩ = false := by
  unfold Lx at h; exact ⟨by simp [World.cell?, h], by simp [World.frozen?, h]⟩
theorem Lx.at7 {L : Nat} {c0 c1 c2 c3 c4 c5 c6 c7 c8 c9 c10 c11 c12 c13 c14 : Value} {w : World} (h : Lx L c0 c1 c2 c3 c4 c5 c6 c7 c8 c9 c10 c11 c12 c13 c14 w) : w.cell? ⟨L, 7, none⟩ = some c7 ∧ w.frozen? ⟨L, 7, none⟩ = false := by
  unfold Lx at h; exact ⟨by simp [World.cell?, h], by simp [World.frozen?, h]⟩
theorem Lx.at8 {L : Nat} {c0 c1 c2 c3 c4 c5 c6 c7 c8 c9 c10 c11 c12 c13 c14 : Value} {w : World} (h : Lx L c0 c1 c2 c3 c4 c5 c6 c7 c8 c9 c10 c11 c12 c13 c14 w) : w.cell? ⟨L, 8, none⟩ = some c8 ∧ w.frozen? ⟨L, 8, none⟩ = false := by
  unfold Lx at h; exact ⟨by simp [World.cell?, h], by simp [World.frozen?, h]⟩
theorem Lx.at9 {L : Nat} {c0 c1 c2 c3 c4 c5 c6 c7 c8 c9 c10 c11 c12 c13 c14 : Value} {w : World} (h : Lx L c0 c1 c2 c3 c4 c5 c6 c7 c8 c9 c10 c11 c12 c13 c14 w) : w.cell? ⟨L, 9, none⟩ = some c9 ∧ w.frozen? ⟨L, 9, none⟩ = false := by
  unfold Lx at h; exact ⟨by simp [World.cell?, h], by simp [World.frozen?, h]⟩
theorem Lx.at10 {L : Nat} {c0 c1 c2 c3 c4 c5 c6 c7 c8 c9 c10 c11 c12 c13 c14 : Value} {w : World} (h : Lx L c0 c1 c2 c3 c4 c5 c6 c7 c8 c9 c10 c11 c12 c13 c14 w) : w.cell? ⟨L, 10, none⟩ = some c10 ∧ w.frozen? ⟨L, 10, none⟩ = false := by
  unfold Lx at h; exact ⟨by simp [World.cell?, h], by simp [World.frozen?, h]⟩
theorem Lx.at11 {L : Nat} {c0 c1 c2 c3 c4 c5 c6 c7 c8 c9 c10 c11 c12 c13 c14 : Value} {w : World} (h : Lx L c0 c1 c2 c3 c4 c5 c6 c7 c8 c9 c10 c11 c12 c13 c14 w) : w.cell? ⟨L, 11, none⟩ = some c11 ∧ w.frozen? ⟨L, 11, none⟩ = false := by
  unfold Lx at h; exact ⟨by simp [World.cell?, h], by simp [World.frozen?, h]⟩
theorem Lx.at12 {L : Nat} {c0 c1 c2 c3 c4 c5 c6 c7 c8 c9 c10 c11 c12 c13 c14 : Value} {w : World} (h : Lx L c0 c1 c2 c3 c4 c5 c6 c7 c8 c9 c10 c11 c12 c13 c14 w) : w.cell? ⟨L, 12, none⟩ = some c12 ∧ w.frozen? ⟨L, 12, none⟩ = false := by
  unfold Lx at h; exact ⟨by simp [World.cell?, h], by simp [World.frozen?, h]⟩
theorem Lx.at13 {L : Nat} {c0 c1 c2 c3 c4 c5 c6 c7 c8 c9 c10 c11 c12 c13 c14 : Value} {w : World} (h : Lx L c0 c1 c2 c3 c4 c5 c6 c7 c8 c9 c10 c11 c12 c13 c14 w) : w.cell? ⟨L, 13, none⟩ = some c13 ∧ w.frozen? ⟨L, 13, none⟩ = false := by
  unfold Lx at h; exact ⟨by simp [World.cell?, h], by simp [World.frozen?, h]⟩
theorem Lx.at14 {L : Nat} {c0 c1 c2 c3 c4 c5 c6 c7 c8 c9 c10 c11 c12 c13 c14 : Value} {w : World} (h : Lx L c0 c1 c2 c3 c4 c5 c6 c7 c8 c9 c10 c11 c12 c13 c14 w) : w.cell? ⟨L, 14, none⟩ = some c14 ∧ w.frozen? ⟨L, 14, none⟩ = false := by
  unfold Lx at h; exact ⟨by simp [World.cell?, h], by simp [World.frozen?, h]⟩
set_option maxHeartbeats 1000000 in
set_option maxRecDepth 100000 in
theorem fail_any (L : Nat) (n : Int) (c0 c1 c3 c4 c5 c6 c7 c8 c9 c10 c11 c12 c13 c14 : Value) (f : ByteArray) (v : Value) (w : World)
    (hL : Lx L c0 c1 (.int .i64 n) c3 c4 c5 c6 c7 c8 c9 c10 c11 c12 c13 c14 w) (hS : Spf f v w) :
    Calls Tryz.prog 44 #[.pointer (some ⟨L, 0, none⟩), .string f, v] w fun e w' =>
      e = .returned (.tuple #[.agg #[.int .i64 57383, .int .i64 n, .string ⟨#[]⟩, .string ⟨#[]⟩], .bool true]) ∧ ∃ (D : Nat) (t : ByteArray), Kept L w w' ∧ w.heap.size ≤ D ∧
        Lx L c0 c1 (.int .i64 n) c3 c4 c5 c6 c7 c8 c9 c10 c11 c12 c13 (.iface 27 (.pointer (some ⟨D, 0, none⟩))) w' ∧ w'.heap[D]? = some (.cells #[.string ⟨#[]⟩, .int .i64 n, .string t] 30 (0, 0)) := by
  obtain ⟨sv, h1, t, h2⟩ := hS
  have hlt : L < w.heap.size := hL.lt
  have k2 := hL.at2.1
  have k14 := hL.at14.1
  have z14 := hL.at14.2
  have HL : Hid (Lx L c0 c1 (.int .i64 n) c3 c4 c5 c6 c7 c8 c9 c10 c11 c12 c13 c14 w) := hL
  clear hL
  have HB : Hid (∀ W, W.tape = w.tape → (∀ a : Addr, a.block < w.heap.size → W.cell? a = w.cell? a) → (FmtCalls.begun #[] #[] sv).run Tryz.prog W = .ok (.value (.string t)) W.drew) := h2
  clear h2
  go_enter Tryz.func44, Tryz.ntmps44
  go_wp2_with fail
  go_region_with (apply rows_value nextTurns; case hr => exact HB.out _ rfl (fun a ha => (((Below.refl _ w).alloc (Nat.le_refl _) _).drew).cell ha))
  all_goals go_wp2
  all_goals
    refine bodyPost_ret (v := .tuple #[.agg #[.int .i64 57383, .int .i64 n, .string ⟨#[]⟩, .string ⟨#[]⟩], .bool true]) (by simp [results, Tryz.results44, go_sem]) rfl ⟨rfl, ?_⟩
    go_light
    refine ⟨w.heap.size + 1, t, ((((Kept.refl L w).set 14 _).alloc _).alloc _).drew.drew, by omega, (((HL.out.set14 _).alloc _).alloc _).drew.drew, ?_⟩
    show (World.alloc _ _).heap[w.heap.size + 1]? = _
    exact heap_new2 _ _ _ (by simp [World.setCell])
end Go.Proofs.Qxb6613210aGreatFmt
