import Derived.Test.Qxb6613210aGreatFmtPlain4
namespace Go.Proofs.Qxb6613210aGreatFmt
namespace Pl
theorem esc_ascii (T : Lib.PrintTabs) (c : UInt8) (h : c.toNat < 128) : Lib.escRune T (c.toNat : Int) = qEsc c := by
  unfold Lib.escRune qEsc
  by_cases c0 : c.toNat = 34 ∨ c.toNat = 92
  · rw [if_pos (by omega), if_pos c0]
  rw [if_neg (by omega), if_neg c0]
  have hp : Lib.isPrintR T (c.toNat : Int) = decide (32 ≤ c.toNat ∧ c.toNat ≤ 126) := by
    unfold Lib.isPrintR
    rw [if_pos (by omega), Bool.eq_iff_iff]
    simp [Lib.isPrintLatin]
    omega
  by_cases c1 : 32 ≤ c.toNat ∧ c.toNat ≤ 126
  · rw [if_pos (by rw [hp]; exact decide_eq_true c1)]
    rw [if_neg (by omega), if_neg (by omega), if_neg (by omega), if_neg (by omega), if_neg (by omega), if_neg (by omega), if_neg (by omega), if_neg (by omega)]
    unfold Lib.encodeRuneZ
    rw [if_pos (by omega)]
  · rw [if_neg (by rw [hp, decide_eq_false c1]; decide)]
    by_cases e7 : c.toNat = 7
    · rw [if_pos (by omega), if_pos e7]
    rw [if_neg (by omega), if_neg e7]
    by_cases e8 : c.toNat = 8
    · rw [if_pos (by omega), if_pos e8]
    rw [if_neg (by omega), if_neg e8]
    by_cases e12 : c.toNat = 12
    · rw [if_pos (by omega), if_neg (by omega), if_neg (by omega), if_neg (by omega), if_pos e12]
    rw [if_neg (by omega)]
    by_cases e10 : c.toNat = 10
    · rw [if_pos (by omega), if_neg (by omega), if_pos e10]
    rw [if_neg (by omega)]
    by_cases e13 : c.toNat = 13
    · rw [if_pos (by omega), if_neg (by omega), if_neg (by omega), if_neg (by omega), if_neg (by omega), if_pos e13]
    rw [if_neg (by omega)]
    by_cases e9 : c.toNat = 9
    · rw [if_pos (by omega), if_pos e9]
    rw [if_neg (by omega), if_neg e9]
    by_cases e11 : c.toNat = 11
    · rw [if_pos (by omega), if_neg (by omega), if_pos e11]
    rw [if_neg (by omega), if_pos (by omega), if_neg (by omega), if_neg (by omega), if_neg (by omega), if_neg (by omega), if_pos (by omega)]
    rfl
theorem get_bang (s : ByteArray) (h : 0 < s.size) : s.get! 0 = s[0] := by
  cases s with
  | mk d => exact getElem!_pos d 0 h
theorem quoteFrom_ascii (T : Lib.PrintTabs) : ∀ (f : Nat) (s : ByteArray), s.size ≤ f → (∀ k, ∀ h : k < s.size, s[k].toNat < 128) → Lib.quoteFrom T f s = s.data.toList.flatMap qEsc
  | 0, s, hf, _ => by
    have : s.data.toList = [] := List.eq_nil_of_length_eq_zero (by rw [size_list]; omega)
    rw [this]; rfl
  | f + 1, s, hf, ha => by
    unfold Lib.quoteFrom
    by_cases h0 : 0 < s.size
    · rw [if_pos h0]
      have hd : Utf8.decode s 0 = ((s[0]'h0).toNat, 1) := by
        rw [Lib.decode_at]
        unfold Lib.decodeN
        rw [get_bang s h0, if_pos (ha 0 h0)]
      have hq : Lib.quoteStep T s = qEsc s[0] := by
        unfold Lib.quoteStep
        rw [hd, if_neg (by have := ha 0 h0; simp only; omega)]
        exact esc_ascii T s[0] (ha 0 h0)
      rw [hq, hd]
      have hsz : (s.extract 1 s.size).size = s.size - 1 := by rw [ByteArray.size_extract]; omega
      rw [quoteFrom_ascii T f (s.extract 1 s.size) (by omega) (fun k h => by
        obtain ⟨h', e, _⟩ := getElem_extract s 1 s.size k (Nat.le_refl _) h
        rw [e]; exact ha _ h')]
      rw [extract_list, List.take_of_length_le (by rw [size_list]; omega)]
      have hl : s.data.toList = s[0] :: s.data.toList.drop 1 := by
        rw [← getElem_list s 0 h0]
        exact (List.drop_eq_getElem_cons (by rw [size_list]; exact h0)) ▸ (List.drop_zero).symm
      conv => rhs; rw [hl]
      rw [List.flatMap_cons]
    · rw [if_neg h0]
      have : s.data.toList = [] := List.eq_nil_of_length_eq_zero (by rw [size_list]; omega)
      rw [this]; rfl
/-- strconv.Quote at ASCII text: the law's own quotedASCII. -/
theorem quoteZ_ascii (T : Lib.PrintTabs) (s : ByteArray) (ha : ∀ k, ∀ h : k < s.size, s[k].toNat < 128) : Lib.quoteZ T s = qHead s.data.toList ++ [34] := by
  unfold Lib.quoteZ qHead
  rw [quoteFrom_ascii T s.size s (Nat.le_refl _) ha]
  rfl
end Pl
end Go.Proofs.Qxb6613210aGreatFmt
