import Derived.Test.Qxb6613227aDoorPlain
import Derived.Test.Qxb6613227aDoorBuf
namespace Go.Proofs.Qxb6613227aDoor
open Go.RowKit
def mark : ByteArray := ⟨#[34]⟩
def tailMark : ByteArray := ⟨#[46, 46, 46, 34]⟩
def cutText (s : ByteArray) (n : Int) : ByteArray := if n < (keep s (n - 5) s.size 0 : Int) + 5 then ⟨#[]⟩ else mark ++ s.extract 0 (keep s (n - 5) s.size 0) ++ tailMark
theorem list_app (a b : ByteArray) : (a ++ b).data.toList = a.data.toList ++ b.data.toList := by
  rw [ByteArray.data_append, Array.toList_append]
theorem list_ext {a b : ByteArray} (h : a.data.toList = b.data.toList) : a = b := by
  cases a; cases b; simp only at h; rw [Array.toList_inj.1 h]
theorem list_cut (s : ByteArray) (i j : Nat) : (s.extract i j).data.toList = (s.data.toList.take j).drop i := by
  rw [ByteArray.data_extract, Array.toList_extract, List.extract_eq_take_drop, List.drop_take]
theorem len_app (a b : ByteArray) : (a ++ b).size = a.size + b.size := by simp [ByteArray.size_append]
theorem quoted_mid (x : ByteArray) : (mark ++ x ++ mark).extract 1 (x.size + 1) = x := by
  apply list_ext
  have hl : x.data.toList.length = x.size := by rw [Array.length_toList]; rfl
  rw [list_cut, list_app, list_app]
  show (List.take (x.size + 1) ((34 :: x.data.toList) ++ [34])).drop 1 = _
  rw [List.cons_append, List.take_succ_cons, List.drop_succ_cons, List.drop_zero, ← hl, List.take_left]
theorem text_eq (s : ByteArray) (k : Nat) : (⟨((34 :: s.data.toList.take k) ++ tailMark.data.toList).toArray⟩ : ByteArray) = mark ++ s.extract 0 k ++ tailMark := by
  apply list_ext
  rw [list_app, list_app, list_cut, List.drop_zero]
  rfl
theorem take_more (s : ByteArray) (k d : Nat) : (34 :: s.data.toList.take k) ++ (s.extract k (k + d)).data.toList = 34 :: s.data.toList.take (k + d) := by
  rw [list_cut, List.cons_append, List.drop_take, show k + d - k = d by omega, List.take_add]
theorem take_len (s : ByteArray) (k : Nat) (h : k ≤ s.size) : (34 :: s.data.toList.take k : List UInt8).length = k + 1 := by
  have hl : s.data.toList.length = s.size := by rw [Array.length_toList]; rfl
  rw [List.length_cons, List.length_take, hl]; omega
theorem Buf.at {W : World} {v : Value} {l : List UInt8} {w : World} (h : Buf W v l w) (m : Nat) (hm : l.length = m) : ∃ a cap, v = .slice a m cap := by
  subst hm; exact h.len
end Go.Proofs.Qxb6613227aDoor
