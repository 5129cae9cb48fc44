import Derived.Test.Qxb6613210aGreatFmtEnv
import Derived.Test.Qxb6613210aGreatFmtPlain6
import Derived.Test.Qxb6613210aGreatFmtW3
namespace Go.Proofs.Qxb6613210aGreatFmt
open Pl
def psL : List UInt8 := [112, 115, 101, 117, 100, 111]
def dvL : List UInt8 := [45, 100, 101, 118, 105, 99, 101]
theorem pd_is (l : List UInt8) (h : List.isPrefixOf pdL l = true) : ∃ r, l = pdL ++ r := by
  obtain ⟨r, hr⟩ := List.isPrefixOf_iff_prefix.1 h
  exact ⟨r, hr.symm⟩
theorem pd_run (r : List UInt8) : runEnd isLet (pdL ++ r) 1 = 6 := by
  unfold runEnd pdL
  rfl
theorem pd_split (s : ByteArray) (h0 : 0 < s.size) :
    (PD s.data.toList = true ∧ runEnd isLet s.data.toList 1 = 6 ∧ 13 ≤ s.size ∧ ((s.extract 0 6).toList == [112, 115, 101, 117, 100, 111]) = true ∧ Lib.hasPrefix (s.extract 6 s.size).data.toList [45, 100, 101, 118, 105, 99, 101] = true ∧ s.data.toList.take 13 = pdL ∧
      (((13 : Int) == (s.size : Int)) = true ∨ (((13 : Int) == (s.size : Int)) = false ∧ ∃ h : 13 < s.size, isLet s[13] = false))) ∨
    (PD s.data.toList = false ∧
      (((s.extract 0 (runEnd isLet s.data.toList 1)).toList == [112, 115, 101, 117, 100, 111]) = false ∨
       (runEnd isLet s.data.toList 1 = 6 ∧ 6 ≤ s.size ∧ ((s.extract 0 6).toList == [112, 115, 101, 117, 100, 111]) = true ∧ Lib.hasPrefix (s.extract 6 s.size).data.toList [45, 100, 101, 118, 105, 99, 101] = false) ∨
       (runEnd isLet s.data.toList 1 = 6 ∧ 6 ≤ s.size ∧ ((s.extract 0 6).toList == [112, 115, 101, 117, 100, 111]) = true ∧ Lib.hasPrefix (s.extract 6 s.size).data.toList [45, 100, 101, 118, 105, 99, 101] = true ∧ ((13 : Int) == (s.size : Int)) = false ∧ ∃ h : 13 < s.size, isLet s[13] = true))) := by
  have hps : ∀ r, s.data.toList = pdL ++ r → ((s.extract 0 6).toList == [112, 115, 101, 117, 100, 111]) = true ∧ Lib.hasPrefix (s.extract 6 s.size).data.toList [45, 100, 101, 118, 105, 99, 101] = true ∧ s.data.toList.take 13 = pdL := by
    intro r hr
    refine ⟨by rw [extract_upto, hr]; rfl, ?_, by rw [hr]; rfl⟩
    rw [extract_list, List.take_of_length_le (by rw [size_list]; omega), hr]; rfl
  have e13 : ∀ b, ((s.size : Int) == 13) = b → ((13 : Int) == (s.size : Int)) = b := by
    intro b h; rw [← h]; exact Bool.beq_comm
  rcases pd_cases s with ⟨h1, h2⟩ | ⟨h1, h2, h3, h4⟩ | ⟨h1, h2, h3, h4, h5⟩ | ⟨h1, h2, h3, h4, h5⟩
  · refine Or.inr ⟨h2, ?_⟩
    obtain ⟨hj1, hj2⟩ := runEnd_le isLet s.data.toList 1 (by rw [size_list]; omega)
    rw [size_list] at hj2
    cases hp : (s.extract 0 (runEnd isLet s.data.toList 1)).toList == [112, 115, 101, 117, 100, 111] with
    | false => exact Or.inl rfl
    | true =>
      rw [beq_iff_eq, extract_upto] at hp
      have hj : runEnd isLet s.data.toList 1 = 6 := by
        have := congrArg List.length hp
        rw [List.length_take, size_list] at this
        simp at this; omega
      refine Or.inr (Or.inl ⟨hj, by omega, ?_, ?_⟩)
      · rw [beq_iff_eq, extract_upto, ← hj]; exact hp
      · rw [hj] at hp
        rw [Bool.eq_false_iff]
        intro h6
        rw [extract_list, List.take_of_length_le (by rw [size_list]; omega)] at h6
        obtain ⟨r, hr⟩ := List.isPrefixOf_iff_prefix.1 h6
        have : s.data.toList = pdL ++ r := by
          rw [← List.take_append_drop 6 s.data.toList, hp, ← hr]; rfl
        rw [this] at h1
        cases h1
  · obtain ⟨r, hr⟩ := pd_is _ h1
    obtain ⟨a, b, c⟩ := hps r hr
    exact Or.inl ⟨h3, by rw [hr]; exact pd_run r, h4, a, b, c, Or.inl (e13 _ h2)⟩
  · obtain ⟨r, hr⟩ := pd_is _ h1
    obtain ⟨a, b, c⟩ := hps r hr
    exact Or.inl ⟨h5, by rw [hr]; exact pd_run r, by omega, a, b, c, Or.inr ⟨e13 _ h2, h3, h4⟩⟩
  · obtain ⟨r, hr⟩ := pd_is _ h1
    obtain ⟨a, b, c⟩ := hps r hr
    exact Or.inr ⟨h5, Or.inr (Or.inr ⟨by rw [hr]; exact pd_run r, by omega, a, b, e13 _ h2, h3, h4⟩)⟩

theorem kw_pd : kwLook pdL = some 57370 := by decide
/-- A word of letters is not 'pseudo-device'. -/
theorem word_not_pd (l : List UInt8) : l.take (runEnd isLet l 1) ≠ pdL := by
  intro h
  have hlen := congrArg List.length h
  rw [List.length_take] at hlen
  have h13 : pdL.length = 13 := rfl
  obtain ⟨h3, h4⟩ := runEnd_run isLet l 1 6 (by omega) (by omega)
  have h5 : (l.take (runEnd isLet l 1))[6]? = some l[6] := by
    rw [List.getElem?_take_of_lt (by omega), List.getElem?_eq_getElem h3]
  rw [h] at h5
  have : l[6] = 45 := by simpa [pdL] using h5.symm
  rw [this] at h4
  cases h4
theorem kw_none (l : List UInt8) (h : kwLook l = none) : keyTok l = 57379 := by
  unfold kwLook at h
  by_cases e : keyTok l = 57379
  · exact e
  · rw [if_neg e] at h; cases h
theorem kw_some (l : List UInt8) (hn : l ≠ pdL) (v : Int) (h : kwLook l = some v) : keyTok l = v := by
  unfold kwLook at h
  by_cases e : keyTok l = 57379
  · rw [if_pos e, if_neg hn] at h; cases h
  · rw [if_neg e] at h; exact Option.some.inj h
/-- What tokOf gives in each case. -/
theorem tok_pd (l : List UInt8) (h : isLet (l.headD 0) = true) (hp : PD l = true) : tokOf l = some (57370, 13) := by
  unfold tokOf; rw [if_pos h, if_pos hp]
theorem tok_word (l : List UInt8) (h : isLet (l.headD 0) = true) (hp : PD l = false) : tokOf l = some (keyTok (l.take (runEnd isLet l 1)), runEnd isLet l 1) := by
  unfold tokOf; rw [if_pos h, if_neg (by rw [hp]; decide)]
theorem tok_quote (l : List UInt8) (h : isLet (l.headD 0) = false) (hq : (l.headD 0).toNat = 34) : tokOf l = if runEnd nq l 1 = l.length then none else some (57379, runEnd nq l 1 + 1) := by
  unfold tokOf; rw [if_neg (by rw [h]; decide), if_pos hq]
theorem tok_num (l : List UInt8) (h : isLet (l.headD 0) = false) (hq : (l.headD 0).toNat ≠ 34) (hd : isDig (l.headD 0) = true) : tokOf l = numTok l := by
  unfold tokOf; rw [if_neg (by rw [h]; decide), if_neg hq, if_pos hd]
theorem tok_else (l : List UInt8) (h : isLet (l.headD 0) = false) (hq : (l.headD 0).toNat ≠ 34) (hd : isDig (l.headD 0) = false) : tokOf l = (pnLook (l.headD 0)).map fun v => (v, 1) := by
  unfold tokOf pnLook; rw [if_neg (by rw [h]; decide), if_neg hq, if_neg (by rw [hd]; decide)]
  split
  · rfl
  · split <;> rfl
/-- The place of the second quotation mark. -/
theorem quote_at (s : ByteArray) (h0 : 0 < s.size) : Lib.indexByte (s.extract 1 s.size).data.toList 34 = if runEnd nq s.data.toList 1 = s.data.toList.length then -1 else ((runEnd nq s.data.toList 1 : Int) - 1) := by
  rw [extract_list, List.take_of_length_le (by rw [size_list]; omega), index_run 34 nq (by
    intro b
    unfold nq
    rw [Bool.eq_iff_iff]
    simp only [bne_iff_ne, Bool.not_eq_true', beq_eq_false_iff_ne]
    exact ⟨fun h e => h (by rw [e]; rfl), fun h e => h (UInt8.toNat_inj.1 e)⟩)]
  unfold runEnd
  have : ((s.data.toList.drop 1).takeWhile nq).length = (s.data.toList.drop 1).length ↔ 1 + ((s.data.toList.drop 1).takeWhile nq).length = s.data.toList.length := by
    rw [List.length_drop, size_list]; omega
  by_cases e : ((s.data.toList.drop 1).takeWhile nq).length = (s.data.toList.drop 1).length
  · rw [if_pos e, if_pos (this.1 e)]
  · rw [if_neg e, if_neg (fun h => e (this.2 h))]; omega
end Go.Proofs.Qxb6613210aGreatFmt
