import Derived.Test.Qxb6613210aGreatFmtPlain
namespace Go.Proofs.Qxb6613210aGreatFmt
namespace Pl
/-- Not '0x' or '0X' ahead, in the walk's own tests. -/
def NoHex (s : ByteArray) : Prop :=
  s.size ≤ 1 ∨ (∃ h : 1 < s.size, (((s[0]'(by omega)).toNat : Int) == 48) = false) ∨
  (∃ h : 1 < s.size, (((s[0]'(by omega)).toNat : Int) == 48) = true ∧ (((s[1]'h).toNat : Int) == 120) = false ∧ (((s[1]'h).toNat : Int) == 88) = false)
def YesHex (s : ByteArray) : Prop := ∃ h : 1 < s.size, (((s[0]'(by omega)).toNat : Int) == 48) = true ∧ ((((s[1]'h).toNat : Int) == 120) = true ∨ (((s[1]'h).toNat : Int) == 88) = true)
theorem hex_or (s : ByteArray) : YesHex s ∨ NoHex s := by
  unfold YesHex NoHex
  by_cases h : 1 < s.size
  · cases h0 : (((s[0]'(by omega)).toNat : Int) == 48) with
    | false => exact Or.inr (Or.inr (Or.inl ⟨h, h0⟩))
    | true =>
      cases h1 : (((s[1]'h).toNat : Int) == 120) with
      | true => exact Or.inl ⟨h, h0, Or.inl h1⟩
      | false =>
        cases h2 : (((s[1]'h).toNat : Int) == 88) with
        | true => exact Or.inl ⟨h, h0, Or.inr h2⟩
        | false => exact Or.inr (Or.inr (Or.inr ⟨h, h0, h1, h2⟩))
  · exact Or.inr (Or.inl (by omega))
theorem noHex_not (s : ByteArray) (h : NoHex s) : ¬ (1 < s.data.toList.length ∧ s.data.toList[0]? = some 48 ∧ (s.data.toList[1]? = some 120 ∨ s.data.toList[1]? = some 88)) := by
  rintro ⟨a, b, c⟩
  rw [size_list] at a
  rw [get0 s 0 (by omega)] at b
  rw [get0 s 1 a] at c
  rcases h with h | ⟨_, h⟩ | ⟨_, _, h1, h2⟩
  · omega
  · rw [Option.some.inj b] at h; exact absurd h (by decide)
  · rcases c with c | c
    · rw [Option.some.inj c] at h1; exact absurd h1 (by decide)
    · rw [Option.some.inj c] at h2; exact absurd h2 (by decide)
/-- No '.' at D, in the walk's own tests. -/
def NoDot (s : ByteArray) (D : Nat) : Prop := s.size ≤ D ∨ ∃ h : D < s.size, ((s[D].toNat : Int) == 46) = false
theorem noDot_not (s : ByteArray) (D : Nat) (h : NoDot s D) : ¬ s.data.toList[D]? = some 46 := by
  intro e
  rcases h with h | ⟨h1, h2⟩
  · rw [List.getElem?_eq_none (by rw [size_list]; exact h)] at e; cases e
  · rw [get0 s D h1] at e
    rw [Option.some.inj e] at h2; exact absurd h2 (by decide)
/-- Not '0' and a second digit ahead, in the walk's own tests. -/
def NoOct (s : ByteArray) (h0 : 0 < s.size) (D : Nat) : Prop := ((s[0].toNat : Int) == 48) = false ∨ (((s[0].toNat : Int) == 48) = true ∧ D ≤ 1)
theorem noOct_not (s : ByteArray) (h0 : 0 < s.size) (D : Nat) (h : NoOct s h0 D) : ¬ (s.data.toList[0]? = some 48 ∧ 1 < D) := by
  rintro ⟨a, b⟩
  rw [get0 s 0 h0] at a
  rcases h with h | ⟨_, h⟩
  · rw [Option.some.inj a] at h; exact absurd h (by decide)
  · omega
theorem yesOct (s : ByteArray) (h0 : 0 < s.size) (D : Nat) (h : ((s[0].toNat : Int) == 48) = true) (h1 : 1 < D) : s.data.toList[0]? = some 48 ∧ 1 < D := by
  refine ⟨?_, h1⟩
  rw [get0 s 0 h0, u8_of_int (n := 48) h (by omega)]; rfl
theorem any_take (s : ByteArray) (D : Nat) (hD : D ≤ s.size) : (s.data.toList.take D).any (fun c => decide (55 < c.toNat)) = true ↔ ∃ k, ∃ h : k < s.size, k < D ∧ 55 < s[k].toNat := by
  rw [List.any_eq_true]
  constructor
  · rintro ⟨c, hc, h⟩
    obtain ⟨k, hk, e⟩ := List.getElem_of_mem hc
    have hk2 : k < D := by rw [List.length_take] at hk; omega
    rw [List.getElem_take, getElem_list s k (by omega)] at e
    exact ⟨k, by omega, hk2, by rw [e]; simpa using h⟩
  · rintro ⟨k, h1, h2, h3⟩
    refine ⟨s[k], ?_, by simpa using h3⟩
    rw [← getElem_list s k h1]
    have : k < (s.data.toList.take D).length := by rw [List.length_take, size_list]; omega
    have e := List.getElem_take (xs := s.data.toList) (j := D) (h := this)
    rw [← e]
    exact List.getElem_mem this
theorem digs (s : ByteArray) (D : Nat) (hD : D ≤ s.size) (h0 : 0 < s.size) (hd : isDig s[0] = true) (h : runEnd isDig s.data.toList 1 = D) : ∀ (j : Nat) (hj : j < (s.extract 0 D).size), 0 ≤ hexV (s.extract 0 D)[j] := by
  intro j hj
  obtain ⟨h', e, hb⟩ := getElem_extract s 0 D j hD hj
  rw [e]
  have hx : ∀ c : UInt8, isDig c = true → 0 ≤ hexV c := by
    intro c hc
    simp only [isDig, Bool.and_eq_true, decide_eq_true_eq] at hc
    unfold hexV
    rw [if_pos hc]; omega
  apply hx
  simp only [Nat.zero_add] at hb ⊢
  by_cases hj0 : j = 0
  · subst hj0; exact hd
  · obtain ⟨h3, h4⟩ := runEnd_run isDig s.data.toList 1 j (by omega) (by omega)
    rw [getElem_list s _ (by omega)] at h4
    exact h4
theorem extract0_list (s : ByteArray) (b : Nat) : (s.extract 0 b).data.toList = s.data.toList.take b := by
  rw [extract_list]; rfl
end Pl
end Go.Proofs.Qxb6613210aGreatFmt
