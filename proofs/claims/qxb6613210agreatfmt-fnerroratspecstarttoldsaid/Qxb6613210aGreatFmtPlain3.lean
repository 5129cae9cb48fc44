import Derived.Test.Qxb6613210aGreatFmtPlain2
namespace Go.Proofs.Qxb6613210aGreatFmt
namespace Pl
def pdL : List UInt8 := [112, 115, 101, 117, 100, 111, 45, 100, 101, 118, 105, 99, 101]
/-- 'pseudo-device' ahead, and no letter behind it. -/
def PD (l : List UInt8) : Bool := List.isPrefixOf [112, 115, 101, 117, 100, 111, 45, 100, 101, 118, 105, 99, 101] l && (l.length == 13 || !isLet (l.getD 13 0))
def nq (c : UInt8) : Bool := c.toNat != 34
/-- The token at the head of l: its token and its length; none where it is no token. -/
def tokOf (l : List UInt8) : Option (Int × Nat) :=
  if isLet (l.headD 0) then
    if PD l then some (57370, 13) else some (keyTok (l.take (runEnd isLet l 1)), runEnd isLet l 1)
  else if (l.headD 0).toNat = 34 then
    if runEnd nq l 1 = l.length then none else some (57379, runEnd nq l 1 + 1)
  else if isDig (l.headD 0) then numTok l
  else if (l.headD 0).toNat = 59 then some (57382, 1)
  else if (l.headD 0).toNat = 45 ∨ (l.headD 0).toNat = 61 ∨ (l.headD 0).toNat = 44 ∨ (l.headD 0).toNat = 63 then some (((l.headD 0).toNat : Int), 1)
  else none
theorem head_list (s : ByteArray) (h : 0 < s.size) : s.data.toList.headD 0 = s[0] := by
  have := get0 s 0 h
  cases hl : s.data.toList with
  | nil => rw [hl] at this; simp at this
  | cons a t => rw [hl] at this; simp at this; simp [this]
theorem getD_list (s : ByteArray) (k : Nat) (h : k < s.size) : s.data.toList.getD k 0 = s[k] := by
  rw [List.getD_eq_getElem?_getD, get0 s k h]; rfl
/-- The walk's own tests: is 'pseudo-device' ahead, and no letter behind it? -/
theorem pd_cases (s : ByteArray) : 
    (List.isPrefixOf [112, 115, 101, 117, 100, 111, 45, 100, 101, 118, 105, 99, 101] s.data.toList = false ∧ PD s.data.toList = false) ∨
    (List.isPrefixOf [112, 115, 101, 117, 100, 111, 45, 100, 101, 118, 105, 99, 101] s.data.toList = true ∧ ((s.size : Int) == 13) = true ∧ PD s.data.toList = true ∧ 13 ≤ s.size) ∨
    (List.isPrefixOf [112, 115, 101, 117, 100, 111, 45, 100, 101, 118, 105, 99, 101] s.data.toList = true ∧ ((s.size : Int) == 13) = false ∧ ∃ h : 13 < s.size, isLet s[13] = false ∧ PD s.data.toList = true) ∨
    (List.isPrefixOf [112, 115, 101, 117, 100, 111, 45, 100, 101, 118, 105, 99, 101] s.data.toList = true ∧ ((s.size : Int) == 13) = false ∧ ∃ h : 13 < s.size, isLet s[13] = true ∧ PD s.data.toList = false) := by
  cases hp : List.isPrefixOf [112, 115, 101, 117, 100, 111, 45, 100, 101, 118, 105, 99, 101] s.data.toList with
  | false => exact Or.inl ⟨rfl, by unfold PD; rw [hp]; rfl⟩
  | true =>
    have hl := (List.isPrefixOf_iff_prefix.1 hp).length_le
    rw [size_list] at hl
    simp only [List.length_cons, List.length_nil] at hl
    by_cases e : s.size = 13
    · exact Or.inr (Or.inl ⟨rfl, by rw [e]; rfl, by unfold PD; rw [hp, size_list, e]; rfl, by omega⟩)
    · have h13 : 13 < s.size := by omega
      have e2 : ((s.size : Int) == 13) = false := by rw [beq_eq_false_iff_ne]; omega
      have e3 : (s.size == 13) = false := by rw [beq_eq_false_iff_ne]; exact e
      cases hb : isLet s[13] with
      | false => exact Or.inr (Or.inr (Or.inl ⟨rfl, e2, h13, hb, by unfold PD; rw [hp, size_list, e3, getD_list s 13 h13, hb]; rfl⟩))
      | true => exact Or.inr (Or.inr (Or.inr ⟨rfl, e2, h13, hb, by unfold PD; rw [hp, size_list, e3, getD_list s 13 h13, hb]; rfl⟩))
end Pl
end Go.Proofs.Qxb6613210aGreatFmt
