import Derived.Test.Qxb6606268aDoorShelf
import Derived.ProofKit
import Derived.Laws.OwnMore
import Derived.BigCall
import Derived.BigGuard
namespace Go.Proofs.Qxb6606268aDoor
open Go.RowKit

theorem owns_below {w w' : World} {base : Nat} {e : TypeId} {size : Nat} {v : Value} {n : Nat} {xs : List Value} (h : w.ownsRow base e size v n xs) (hb : Below w.heap.size w w') : w'.ownsRow base e size v n xs := by
  obtain ⟨h1, h2⟩ := h
  refine ⟨h1, ?_⟩
  rcases h2 with h2 | ⟨g, cap, cur, h3, h4, h5, h6⟩
  · exact Or.inl h2
  · refine Or.inr ⟨g, cap, cur, h3, h4, ?_, h6⟩
    have hg : g < w.heap.size := by
      rcases Nat.lt_or_ge g w.heap.size with hh | hh
      · exact hh
      · rw [Array.getElem?_eq_none hh] at h5; cases h5
    rw [hb.block g hg]; exact h5
theorem at_below {w w' : World} {T e : TypeId} {B b : Nat} {p : Value} {bs : List Value} (h : Lib.BuilderAt T e B b p bs w) (hb : Below w.heap.size w w') : Lib.BuilderAt T e B b p bs w' := by
  have hlt := h.lt
  obtain ⟨h1, v, h2, h3, h4⟩ := h
  exact ⟨h1, v, by rw [hb.block b hlt]; exact h2, owns_below h3 hb, h4⟩
theorem is_below {w w' : World} {T e : TypeId} {B b : Nat} {bs : List Value} (h : Lib.IsBuilder T e B b bs w) (hb : Below w.heap.size w w') : Lib.IsBuilder T e B b bs w' :=
  h.elim (fun h => Or.inl (at_below h hb)) (fun h => Or.inr (at_below h hb))
theorem is_lt {w : World} {T e : TypeId} {B b : Nat} {bs : List Value} (h : Lib.IsBuilder T e B b bs w) : b < w.heap.size := h.elim (fun h => h.lt) (fun h => h.lt)

/-- A text under way: the number in block N, the builder in block N + 1, which holds l, at most M bytes. -/
structure St (w0 : World) (N : Nat) (neg : Bool) (ds : ByteArray) (ex sc : Int) (M : Nat) (l : List UInt8) (w : World) : Prop where
  bld : Lib.IsBuilder 40 5 (N + 1) (N + 1) (Lib.byteCells l) w
  box : w.heap[N]? = some (.cells #[.bool neg, .string ds, .int .i64 ex, .int .i64 sc] 29 (0, 0))
  bel : Below N w0 w
  len : l.length ≤ M

theorem St.cells {w0 : World} {N M : Nat} {neg : Bool} {ds : ByteArray} {ex sc : Int} {l : List UInt8} {w : World} (h : St w0 N neg ds ex sc M l w) :
    w.cell? ⟨N, 0, none⟩ = some (.bool neg) ∧ w.cell? ⟨N, 1, none⟩ = some (.string ds) ∧ w.cell? ⟨N, 2, none⟩ = some (.int .i64 ex) ∧ w.cell? ⟨N, 3, none⟩ = some (.int .i64 sc) := by
  have hb := h.box
  exact ⟨by simp [World.cell?, hb], by simp [World.cell?, hb], by simp [World.cell?, hb], by simp [World.cell?, hb]⟩
theorem St.lt {w0 : World} {N M : Nat} {neg : Bool} {ds : ByteArray} {ex sc : Int} {l : List UInt8} {w : World} (h : St w0 N neg ds ex sc M l w) : N + 1 < w.heap.size := is_lt h.bld
theorem St.byte {w0 : World} {N M : Nat} {neg : Bool} {ds : ByteArray} {ex sc : Int} {l : List UInt8} {w : World} (h : St w0 N neg ds ex sc M l w) (c : UInt8) (hl : M ≤ 100000000) :
    Calls Tryd.prog 18 #[.pointer (some ⟨N + 1, 0, none⟩), .int .u8 c.toNat] w fun e w' => e = .returned .nilIface ∧ St w0 N neg ds ex sc (M + 1) (l ++ [c]) w' := by
  have hlen := h.len
  refine (Tryd.Builder_WriteByte (N + 1) (N + 1) _ _ w h.bld (by rw [Lib.byteCells_length]; omega) (by have := h.lt; omega)).mono ?_
  rintro e w' ⟨rfl, h1, h2⟩
  exact ⟨rfl, Or.inr (by unfold Lib.byteCells at h1 ⊢; rw [List.map_append]; exact h1), by rw [h2.block N (by omega)]; exact h.box, h.bel.trans (h2.mono (by omega)), by rw [List.length_append]; simp; omega⟩
theorem St.str {w0 : World} {N M : Nat} {neg : Bool} {ds : ByteArray} {ex sc : Int} {l : List UInt8} {w : World} (h : St w0 N neg ds ex sc M l w) (s : ByteArray) (m : Nat) (hs : s.size ≤ m) (hl : M + m ≤ 100000000) :
    Calls Tryd.prog 19 #[.pointer (some ⟨N + 1, 0, none⟩), .string s] w fun e w' => e = .returned (.tuple #[.int .i64 s.size, .nilIface]) ∧ St w0 N neg ds ex sc (M + m) (l ++ s.data.toList) w' := by
  have hlen := h.len
  refine (Tryd.Builder_WriteString (N + 1) (N + 1) _ s w h.bld (by rw [Lib.byteCells_length]; omega) (by have := h.lt; omega)).mono ?_
  rintro e w' ⟨rfl, h1, h2⟩
  exact ⟨rfl, Or.inr (by unfold Lib.byteCells at h1 ⊢; rw [List.map_append]; exact h1), by rw [h2.block N (by omega)]; exact h.box, h.bel.trans (h2.mono (by omega)), by
    rw [List.length_append]
    have : s.data.toList.length = s.size := by rw [Array.length_toList]; rfl
    omega⟩
theorem St.below {w0 : World} {N M : Nat} {neg : Bool} {ds : ByteArray} {ex sc : Int} {l : List UInt8} {w w' : World} (h : St w0 N neg ds ex sc M l w) (hb : Below w.heap.size w w') : St w0 N neg ds ex sc M l w' :=
  ⟨is_below h.bld hb, by rw [hb.block N (by have := h.lt; omega)]; exact h.box, h.bel.trans (hb.mono (by have := h.lt; omega)), h.len⟩
theorem rep_list (c : UInt8) : ∀ n : Nat, Lib.repeatL [c] n = List.replicate n c := by
  intro n
  induction n with
  | zero => rfl
  | succ n ih =>
    rw [List.replicate_succ, ← ih]; rfl
/-- A row of n zeros, as a string. -/
def zeroS (n : Nat) : ByteArray := ⟨(List.replicate n 48).toArray⟩
theorem zeroS_list (n : Nat) : (zeroS n).data.toList = List.replicate n 48 := by simp [zeroS]
theorem zeroS_size (n : Nat) : (zeroS n).size = n := by simp [zeroS, ByteArray.size]
/-- strings.Repeat of one zero. -/
theorem St.rep {w0 : World} {N M : Nat} {neg : Bool} {ds : ByteArray} {ex sc : Int} {l : List UInt8} {w : World} (h : St w0 N neg ds ex sc M l w) (z : Int) (h0 : 0 ≤ z) (hn : z ≤ 100000000) :
    Calls Tryd.prog 20 #[.string ⟨#[48]⟩, .int .i64 z] w fun e w' => e = .returned (.string (zeroS z.toNat)) ∧ St w0 N neg ds ex sc M l w' := by
  obtain ⟨n, rfl⟩ : ∃ n : Nat, z = n := ⟨z.toNat, by omega⟩
  refine (Tryd.strings_Repeat ⟨#[48]⟩ n w (by omega) (by show 1 * n ≤ _; omega)).mono ?_
  rintro e w' ⟨rfl, h2⟩
  exact ⟨by rw [Int.toNat_natCast]; unfold zeroS; rw [← rep_list], h.below h2⟩
theorem St.done {w0 : World} {N M : Nat} {neg : Bool} {ds : ByteArray} {ex sc : Int} {l : List UInt8} {w : World} (h : St w0 N neg ds ex sc M l w) :
    Calls Tryd.prog 21 #[.pointer (some ⟨N + 1, 0, none⟩)] w fun e w' => e = .returned (.string ⟨l.toArray⟩) ∧ Below N w0 w' := by
  refine (Tryd.Builder_String_any (N + 1) (N + 1) l w h.bld (by have := h.lt; omega)).mono ?_
  rintro e w' ⟨rfl, h2⟩
  exact ⟨rfl, h.bel.trans (h2.mono (by omega))⟩
theorem St.start (w0 : World) (N : Nat) (hN : w0.heap.size = N) (neg : Bool) (ds : ByteArray) (ex sc : Int) :
    St w0 N neg ds ex sc 0 [] ((w0.alloc (.cells #[.bool neg, .string ds, .int .i64 ex, .int .i64 sc] 29)).alloc (.cells #[.pointer none, .slice none 0 0] 40)) := by
  subst hN
  refine ⟨Or.inl ⟨Nat.le_refl _, .slice none 0 0, ?_, World.ownsRow_nil _ _ _ _, by simp [Value.ownBlock]⟩, ?_, ((Below.refl _ _).alloc (Nat.le_refl _) _).alloc (by simp) _, Nat.le_refl _⟩
  · show ((w0.heap.push _).push _)[w0.heap.size + 1]? = _
    have : w0.heap.size + 1 = (w0.heap.push (.cells #[.bool neg, .string ds, .int .i64 ex, .int .i64 sc] 29)).size := by simp
    rw [this, Array.getElem?_push_size]
  · rw [Below.heap_alloc _ _ _ (by simp)]
    show (w0.heap.push _)[w0.heap.size]? = _
    rw [Array.getElem?_push_size]
theorem St.byte_neg {w0 : World} {N M : Nat} {neg : Bool} {ds : ByteArray} {ex sc : Int} {l : List UInt8} {w : World} (h : St w0 N neg ds ex sc M l w) (hl : M ≤ 100000000) :
    Calls Tryd.prog 18 #[.pointer (some ⟨N + 1, 0, none⟩), .int .u8 45] w fun e w' => e = .returned .nilIface ∧ St w0 N neg ds ex sc (M + 1) (l ++ [45]) w' := h.byte 45 hl
theorem St.byte_zero {w0 : World} {N M : Nat} {neg : Bool} {ds : ByteArray} {ex sc : Int} {l : List UInt8} {w : World} (h : St w0 N neg ds ex sc M l w) (hl : M ≤ 100000000) :
    Calls Tryd.prog 18 #[.pointer (some ⟨N + 1, 0, none⟩), .int .u8 48] w fun e w' => e = .returned .nilIface ∧ St w0 N neg ds ex sc (M + 1) (l ++ [48]) w' := h.byte 48 hl
theorem St.byte_dot {w0 : World} {N M : Nat} {neg : Bool} {ds : ByteArray} {ex sc : Int} {l : List UInt8} {w : World} (h : St w0 N neg ds ex sc M l w) (hl : M ≤ 100000000) :
    Calls Tryd.prog 18 #[.pointer (some ⟨N + 1, 0, none⟩), .int .u8 46] w fun e w' => e = .returned .nilIface ∧ St w0 N neg ds ex sc (M + 1) (l ++ [46]) w' := h.byte 46 hl
end Go.Proofs.Qxb6606268aDoor
