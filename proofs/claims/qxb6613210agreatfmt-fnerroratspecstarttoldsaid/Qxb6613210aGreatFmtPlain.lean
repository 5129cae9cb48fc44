import GoSem.Core.Value
namespace Go.Proofs.Qxb6613210aGreatFmt
namespace Pl

def isLet (c : UInt8) : Bool := (97 ≤ c.toNat && c.toNat ≤ 122) || (65 ≤ c.toNat && c.toNat ≤ 90) || c.toNat == 95
def isDig (c : UInt8) : Bool := 48 ≤ c.toNat && c.toNat ≤ 57
def hexV (c : UInt8) : Int :=
  if 48 ≤ c.toNat ∧ c.toNat ≤ 57 then (c.toNat : Int) - 48
  else if 97 ≤ c.toNat ∧ c.toNat ≤ 102 then (c.toNat : Int) - 87
  else if 65 ≤ c.toNat ∧ c.toNat ≤ 70 then (c.toNat : Int) - 55
  else -1
def isHex (c : UInt8) : Bool := decide (0 ≤ hexV c)

/-- Where the run of bytes that meet p, from place i on, ends. -/
def runEnd (p : UInt8 → Bool) (l : List UInt8) (i : Nat) : Nat := i + ((l.drop i).takeWhile p).length

theorem runEnd_step (p : UInt8 → Bool) (l : List UInt8) (i : Nat) (h : i < l.length) (hp : p l[i] = true) : runEnd p l i = runEnd p l (i + 1) := by
  unfold runEnd
  rw [List.drop_eq_getElem_cons h, List.takeWhile_cons_of_pos hp]
  simp; omega
theorem runEnd_stop (p : UInt8 → Bool) (l : List UInt8) (i : Nat) (h : i < l.length) (hp : p l[i] = false) : runEnd p l i = i := by
  unfold runEnd
  rw [List.drop_eq_getElem_cons h, List.takeWhile_cons_of_neg (by simp [hp])]
  simp
theorem runEnd_end (p : UInt8 → Bool) (l : List UInt8) (i : Nat) (h : l.length ≤ i) : runEnd p l i = i := by
  unfold runEnd
  rw [List.drop_eq_nil_of_le h]; simp
theorem runEnd_le (p : UInt8 → Bool) (l : List UInt8) (i : Nat) (h : i ≤ l.length) : i ≤ runEnd p l i ∧ runEnd p l i ≤ l.length := by
  unfold runEnd
  have := (List.takeWhile_sublist p (l := l.drop i)).length_le
  simp at this
  omega
/-- A blank: a space or a TAB. -/
def isBl (c : UInt8) : Bool := ([32, 9] : List UInt8).contains c
theorem size_list (s : ByteArray) : s.data.toList.length = s.size := by rw [Array.length_toList]; rfl
theorem getElem_list (s : ByteArray) (k : Nat) (h : k < s.size) : s.data.toList[k]'(by rw [size_list]; exact h) = s[k] := by
  rw [Array.getElem_toList]; rfl
theorem runEnd_zero (p : UInt8 → Bool) (l : List UInt8) : l.drop (runEnd p l 0) = l.dropWhile p := by
  unfold runEnd
  simp only [List.drop_zero, Nat.zero_add]
  induction l with
  | nil => rfl
  | cons a l ih =>
    by_cases h : p a = true
    · rw [List.takeWhile_cons_of_pos h, List.dropWhile_cons_of_pos h]; simpa using ih
    · rw [List.takeWhile_cons_of_neg h, List.dropWhile_cons_of_neg h]; simp
/-- The token of a word, as the law's own list has it. -/
def keyTok (l : List UInt8) : Int :=
  if (l == [109, 97, 99, 104, 105, 110, 101]) = true then 57346 else
  if (l == [99, 112, 117]) = true then 57347 else
  if (l == [111, 112, 116, 105, 111, 110, 115]) = true then 57348 else
  if (l == [109, 97, 107, 101, 111, 112, 116, 105, 111, 110, 115]) = true then 57349 else
  if (l == [105, 100, 101, 110, 116]) = true then 57350 else
  if (l == [99, 111, 110, 102, 105, 103]) = true then 57351 else
  if (l == [116, 105, 109, 101, 122, 111, 110, 101]) = true then 57352 else
  if (l == [100, 115, 116]) = true then 57353 else
  if (l == [109, 97, 120, 117, 115, 101, 114, 115]) = true then 57354 else
  if (l == [116, 114, 97, 99, 101]) = true then 57355 else
  if (l == [115, 119, 97, 112]) = true then 57356 else
  if (l == [114, 111, 111, 116]) = true then 57357 else
  if (l == [100, 117, 109, 112, 115]) = true then 57358 else
  if (l == [97, 114, 103, 115]) = true then 57359 else
  if (l == [111, 110]) = true then 57360 else
  if (l == [97, 110, 100]) = true then 57361 else
  if (l == [115, 105, 122, 101]) = true then 57362 else
  if (l == [109, 97, 106, 111, 114]) = true then 57363 else
  if (l == [109, 105, 110, 111, 114]) = true then 57364 else
  if (l == [100, 101, 118, 105, 99, 101]) = true then 57365 else
  if (l == [109, 97, 115, 116, 101, 114]) = true then 57366 else
  if (l == [100, 105, 115, 107]) = true then 57367 else
  if (l == [116, 97, 112, 101]) = true then 57368 else
  if (l == [99, 111, 110, 116, 114, 111, 108, 108, 101, 114]) = true then 57369 else
  if (l == [97, 116]) = true then 57371 else
  if (l == [110, 101, 120, 117, 115]) = true then 57372 else
  if (l == [99, 115, 114]) = true then 57375 else
  if (l == [100, 114, 105, 118, 101]) = true then 57375 else
  if (l == [115, 108, 97, 118, 101]) = true then 57375 else
  if (l == [102, 108, 97, 103, 115]) = true then 57375 else
  if (l == [105, 114, 113]) = true then 57376 else
  if (l == [100, 114, 113]) = true then 57376 else
  if (l == [105, 111, 109, 101, 109]) = true then 57376 else
  if (l == [105, 111, 115, 105, 122]) = true then 57376 else
  if (l == [112, 111, 114, 116]) = true then 57377 else
  if (l == [116, 116, 121]) = true then 57378 else
  if (l == [98, 105, 111]) = true then 57378 else
  if (l == [110, 101, 116]) = true then 57378 else
  if (l == [118, 101, 99, 116, 111, 114]) = true then 57373 else
  if (l == [112, 114, 105, 111, 114, 105, 116, 121]) = true then 57374 else
  57379
/-- The value of the digits l in base b. -/
def valFrom (b : Nat) (v : Nat) (l : List UInt8) : Nat := l.foldl (fun v c => v * b + (hexV c).toNat) v
def valN (b : Nat) (l : List UInt8) : Nat := valFrom b 0 l
theorem hexV_bd (c : UInt8) : -1 ≤ hexV c ∧ hexV c ≤ 15 := by unfold hexV; (repeat' split) <;> omega
theorem valFrom_le (b : Nat) (hb : 1 ≤ b) (l : List UInt8) : ∀ v : Nat, v ≤ valFrom b v l := by
  induction l with
  | nil => intro v; exact Nat.le_refl _
  | cons c l ih =>
    intro v
    show v ≤ valFrom b (v * b + (hexV c).toNat) l
    have h1 := ih (v * b + (hexV c).toNat)
    have h2 : v * 1 ≤ v * b := Nat.mul_le_mul_left v hb
    omega
theorem valN_snoc (b : Nat) (l : List UInt8) (c : UInt8) : valN b (l ++ [c]) = valN b l * b + (hexV c).toNat := by
  unfold valN valFrom; rw [List.foldl_append]; rfl
theorem valN_take_le (b : Nat) (hb : 1 ≤ b) (l : List UInt8) (k : Nat) : valN b (l.take k) ≤ valN b l := by
  have h : valN b l = valFrom b (valN b (l.take k)) (l.drop k) := by
    unfold valN valFrom; rw [← List.foldl_append, List.take_append_drop]
  rw [h]; exact valFrom_le b hb _ _
theorem take_snoc (s : ByteArray) (k : Nat) (h : k < s.size) : s.data.toList.take (k + 1) = s.data.toList.take k ++ [s[k]] := by
  rw [List.take_succ_eq_append_getElem (by rw [size_list]; exact h), getElem_list s k h]
/-- The number at the head of l (which begins with a digit): its token and its length; none where it is no token. -/
def numTok (l : List UInt8) : Option (Int × Nat) :=
  if 1 < l.length ∧ l[0]? = some 48 ∧ (l[1]? = some 120 ∨ l[1]? = some 88) then
    if runEnd isHex l 2 = 2 then none
    else if valN 16 ((l.take (runEnd isHex l 2)).drop 2) ≤ 18446744073709551615 then some (57380, runEnd isHex l 2) else none
  else if l[runEnd isDig l 1]? = some 46 then some (57381, runEnd isDig l (runEnd isDig l 1 + 1))
  else if l[0]? = some 48 ∧ 1 < runEnd isDig l 1 then
    if (l.take (runEnd isDig l 1)).any (fun c => decide (55 < c.toNat)) then none
    else if valN 8 (l.take (runEnd isDig l 1)) ≤ 18446744073709551615 then some (57380, runEnd isDig l 1) else none
  else if valN 10 (l.take (runEnd isDig l 1)) ≤ 18446744073709551615 then some (57380, runEnd isDig l 1) else none
theorem runEnd_run (p : UInt8 → Bool) (l : List UInt8) (i k : Nat) (h1 : i ≤ k) (h2 : k < runEnd p l i) : ∃ h : k < l.length, p l[k] = true := by
  unfold runEnd at h2
  have hle := (List.takeWhile_sublist p (l := l.drop i)).length_le
  simp at hle
  refine ⟨by omega, ?_⟩
  have h3 : k - i < ((l.drop i).takeWhile p).length := by omega
  have h4 := List.getElem_mem h3
  have h5 := List.all_eq_true.1 (List.all_takeWhile (l := l.drop i) (p := p)) _ h4
  have h6 : ((l.drop i).takeWhile p)[k - i] = (l.drop i)[k - i]'(by simp; omega) := by
    have := List.takeWhile_prefix p (l := l.drop i)
    exact this.getElem _
  rw [h6] at h5
  rw [List.getElem_drop] at h5
  have e : i + (k - i) = k := by omega
  simp only [e] at h5
  exact h5
theorem get0 (s : ByteArray) (k : Nat) (h : k < s.size) : s.data.toList[k]? = some s[k] := by
  rw [List.getElem?_eq_getElem (by rw [size_list]; exact h), getElem_list s k h]
theorem u8_of_int {c : UInt8} {n : Nat} (h : ((c.toNat : Int) == (n : Int)) = true) (_hn : n < 256) : c = UInt8.ofNat n := by
  have h3 : (c.toNat : Int) = (n : Int) := by simpa using h
  have h2 : c.toNat = n := by omega
  rw [← h2]; simp
theorem extract_list (s : ByteArray) (a b : Nat) : (s.extract a b).data.toList = (s.data.toList.take b).drop a := by
  rw [ByteArray.data_extract, Array.toList_extract, List.extract_eq_take_drop, List.drop_take]
theorem size_extract (s : ByteArray) (a b : Nat) (h1 : a ≤ b) (h2 : b ≤ s.size) : (s.extract a b).size = b - a := by
  rw [ByteArray.size_extract]; omega
theorem getElem_extract (s : ByteArray) (a b k : Nat) (h2 : b ≤ s.size) (h : k < (s.extract a b).size) : ∃ h' : a + k < s.size, (s.extract a b)[k] = s[a + k] ∧ a + k < b := by
  have h1 : k < min b s.size - a := by rw [ByteArray.size_extract] at h; exact h
  refine ⟨by omega, ?_, by omega⟩
  rw [← getElem_list _ _ h, ← getElem_list s (a + k) (by omega)]
  simp only [extract_list, List.getElem_drop, List.getElem_take]
theorem numTok_hex (s : ByteArray) (h1 : 1 < s.size) (h0 : (((s[0]'(by omega)).toNat : Int) == 48) = true) (hx : (((s[1]'h1).toNat : Int) == 120) = true ∨ (((s[1]'h1).toNat : Int) == 88) = true) :
    numTok s.data.toList = if runEnd isHex s.data.toList 2 = 2 then none else if valN 16 ((s.data.toList.take (runEnd isHex s.data.toList 2)).drop 2) ≤ 18446744073709551615 then some (57380, runEnd isHex s.data.toList 2) else none := by
  unfold numTok
  rw [if_pos ⟨by rw [size_list]; exact h1, by rw [get0 s 0 (by omega), u8_of_int (n := 48) h0 (by omega)]; rfl, by
    rw [get0 s 1 h1]
    rcases hx with hx | hx
    · exact Or.inl (by rw [u8_of_int (n := 120) hx (by omega)]; rfl)
    · exact Or.inr (by rw [u8_of_int (n := 88) hx (by omega)]; rfl)⟩]
end Pl
end Go.Proofs.Qxb6613210aGreatFmt
