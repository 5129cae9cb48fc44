import Derived.Test.Qxb6612396aDoorProg
import Derived.ProofKit
import Derived.BigCall
import Derived.BigGuard
import Derived.Deep.CutBlock
import Derived.Deep.CutRange
namespace Go.Proofs.Qxb6612396aDoor
/-- A byte's ASCII lower case, as a number. -/
def low (c : Nat) : Nat := if 65 ≤ c ∧ c ≤ 90 then c + 32 else c
/-- How many bytes of l meet the keyword's byte c; none: they do not. -/
def eats (l : List UInt8) (c : UInt8) : Option Nat :=
  match l with
  | [] => none
  | b :: r =>
    if b.toNat < 128 then (if low b.toNat = low c.toNat then some 1 else none)
    else if low c.toNat = 107 ∧ b = 226 ∧ r.take 2 = [132, 170] then some 3
    else if low c.toNat = 115 ∧ b = 197 ∧ r.take 1 = [191] then some 2
    else none
/-- Does the text spell the keyword? -/
def folds : List UInt8 → List UInt8 → Bool
  | l, [] => l.isEmpty
  | l, c :: k => match eats l c with
    | none => false
    | some n => folds (l.drop n) k
theorem len_list (s : ByteArray) : s.data.toList.length = s.size := by rw [Array.length_toList]; rfl
theorem get_list (s : ByteArray) (k : Nat) (h : k < s.size) : s.data.toList[k]? = some s[k] := by
  rw [Array.getElem?_toList]
  exact Array.getElem?_eq_getElem h
theorem drop_cons (s : ByteArray) (k : Nat) (h : k < s.size) : s.data.toList.drop k = s[k] :: s.data.toList.drop (k + 1) := by
  have h1 : k < s.data.toList.length := by rw [len_list]; exact h
  rw [List.drop_eq_getElem_cons h1]
  rfl
theorem drop_nil (s : ByteArray) (k : Nat) (h : s.size ≤ k) : s.data.toList.drop k = [] := List.drop_eq_nil_of_le (by rw [len_list]; exact h)
theorem folds_none (l : List UInt8) (c : UInt8) (k : List UInt8) (h : eats l c = none) : folds l (c :: k) = false := by
  rw [folds.eq_def]; simp only [h]
theorem folds_some (l : List UInt8) (c : UInt8) (k : List UInt8) (n : Nat) (h : eats l c = some n) : folds l (c :: k) = folds (l.drop n) k := by
  rw [folds.eq_def]; simp only [h]
theorem folds_end (l : List UInt8) : folds l [] = l.isEmpty := by rw [folds.eq_def]
end Go.Proofs.Qxb6612396aDoor
