import Derived.Test.Qxb6613210aGreatFmtPlain3
import Derived.Lib.IndexAny
import Derived.Lib.SlTrimSet
namespace Go.Proofs.Qxb6613210aGreatFmt
namespace Pl
theorem hex_contains (c : UInt8) : ([48, 49, 50, 51, 52, 53, 54, 55, 56, 57, 97, 98, 99, 100, 101, 102, 65, 66, 67, 68, 69, 70] : List UInt8).contains c = isHex c := by
  rw [Bool.eq_iff_iff]
  simp only [List.contains_eq_mem, List.mem_cons, List.not_mem_nil, or_false, decide_eq_true_eq, ← UInt8.toNat_inj]
  have e : ∀ n : Nat, n < 256 → (UInt8.ofNat n).toNat = n := fun n h => by simp; omega
  simp only [isHex, decide_eq_true_eq]
  unfold hexV
  constructor
  · intro h
    have h2 : (48 ≤ c.toNat ∧ c.toNat ≤ 57) ∨ (97 ≤ c.toNat ∧ c.toNat ≤ 102) ∨ (65 ≤ c.toNat ∧ c.toNat ≤ 70) := by
      simp at h; omega
    (repeat' split) <;> omega
  · intro h
    have h2 : (48 ≤ c.toNat ∧ c.toNat ≤ 57) ∨ (97 ≤ c.toNat ∧ c.toNat ≤ 102) ∨ (65 ≤ c.toNat ∧ c.toNat ≤ 70) := by
      (repeat' split at h) <;> omega
    simp; omega
theorem toNat_toU8 (c : UInt8) : ((c.toNat : Int)).toNat.toUInt8 = c := by
  simp
/-- strings.IndexByte over the hexadecimal digits. -/
theorem index_hex (c : UInt8) : (0 ≤ Lib.indexByte [48, 49, 50, 51, 52, 53, 54, 55, 56, 57, 97, 98, 99, 100, 101, 102, 65, 66, 67, 68, 69, 70] c) ↔ isHex c = true := by
  rw [← hex_contains, Lib.contains_iff_indexByte, decide_eq_true_iff]
/-- strings.IndexByte: the run of other bytes. -/
theorem index_run (c : UInt8) (p : UInt8 → Bool) (hp : ∀ b, p b = !(b == c)) : ∀ l : List UInt8, Lib.indexByte l c = if (l.takeWhile p).length = l.length then -1 else ((l.takeWhile p).length : Int)
  | [] => rfl
  | b :: l => by
    unfold Lib.indexByte
    by_cases e : b = c
    · subst e
      rw [if_pos (by simp), List.takeWhile_cons_of_neg (by rw [hp]; simp)]
      simp
    · have hb : p b = true := by rw [hp]; simpa using e
      rw [if_neg (by simpa using e), List.takeWhile_cons_of_pos hb, index_run c p hp l]
      by_cases e2 : (l.takeWhile p).length = l.length
      · rw [if_pos e2]; simp [e2]
      · rw [if_neg e2]
        have h2 : ¬ (((l.takeWhile p).length : Int) == -1) = true := by rw [beq_iff_eq]; omega
        rw [if_neg h2, if_neg (by simp only [List.length_cons]; omega)]
        simp
/-- strings.Trim leaves nothing just where every byte is of the set. -/
theorem dropWhile_nil {α : Type} (p : α → Bool) : ∀ l : List α, l.dropWhile p = [] ↔ ∀ x ∈ l, p x = true
  | [] => by simp
  | a :: l => by
    by_cases h : p a = true
    · rw [List.dropWhile_cons_of_pos h, dropWhile_nil p l]; simp [h]
    · rw [List.dropWhile_cons_of_neg h]; simp [h]
theorem trimS_nil (l cs : List UInt8) : Lib.trimS l cs = [] ↔ ∀ x ∈ l, cs.contains x = true := by
  unfold Lib.trimS Lib.trimLeftS Lib.trimRightS
  rw [dropWhile_nil]
  constructor
  · intro h
    have h2 : l.reverse.dropWhile (cs.contains ·) = [] := by
      cases hd : l.reverse.dropWhile (cs.contains ·) with
      | nil => rfl
      | cons a t =>
        have h3 : cs.contains a = false := by
          have := List.head?_dropWhile_not (cs.contains ·) l.reverse
          rw [hd] at this
          simpa using this
        have h4 := h a (by rw [hd]; simp)
        rw [h3] at h4; cases h4
    intro x hx
    exact (dropWhile_nil _ _).1 h2 x (by simpa using hx)
  · intro h x hx
    have h2 : l.reverse.dropWhile (cs.contains ·) = [] := (dropWhile_nil _ _).2 fun y hy => h y (by simpa using hy)
    rw [h2] at hx; simp at hx
theorem oct_contains (c : UInt8) (h : isDig c = true) : ([48, 49, 50, 51, 52, 53, 54, 55] : List UInt8).contains c = !decide (55 < c.toNat) := by
  simp only [isDig, Bool.and_eq_true, decide_eq_true_eq] at h
  rw [Bool.eq_iff_iff]
  simp only [List.contains_eq_mem, List.mem_cons, List.not_mem_nil, or_false, decide_eq_true_eq, ← UInt8.toNat_inj, Bool.not_eq_true', decide_eq_false_iff_not]
  simp; omega
end Pl
end Go.Proofs.Qxb6613210aGreatFmt
