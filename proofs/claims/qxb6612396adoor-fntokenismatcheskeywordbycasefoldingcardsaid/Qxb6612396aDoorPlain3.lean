import Derived.Test.Qxb6612396aDoorPlain2
import Derived.Test.Qxb6612396aDoorW3
namespace Go.Proofs.Qxb6612396aDoor
/-- How a keyword's byte folds: it is its own fold; or it swaps with another ASCII byte; or it is one of K, k, S, s. -/
theorem fold_kinds (c : Nat) (hc : c < 128) :
    (foldA c = c ∧ low c ≠ 107 ∧ low c ≠ 115) ∨
    (∃ c', foldA c = c' ∧ c' ≠ c ∧ c' < 128 ∧ foldA c' = c ∧ low c ≠ 107 ∧ low c ≠ 115) ∨
    c = 75 ∨ c = 107 ∨ c = 83 ∨ c = 115 := by
  by_cases h1 : 65 ≤ c ∧ c ≤ 90
  · by_cases h2 : c = 75
    · exact Or.inr (Or.inr (Or.inl h2))
    · by_cases h3 : c = 83
      · exact Or.inr (Or.inr (Or.inr (Or.inr (Or.inl h3))))
      · refine Or.inr (Or.inl ⟨c + 32, by unfold foldA; rw [if_pos h1], by omega, by omega, ?_, ?_, ?_⟩)
        · unfold foldA
          rw [if_neg (by omega), if_neg (by omega), if_neg (by omega), if_pos (by omega)]; omega
        · unfold low; rw [if_pos h1]; omega
        · unfold low; rw [if_pos h1]; omega
  · by_cases h2 : c = 107
    · exact Or.inr (Or.inr (Or.inr (Or.inl h2)))
    · by_cases h3 : c = 115
      · exact Or.inr (Or.inr (Or.inr (Or.inr (Or.inr h3))))
      · by_cases h4 : 97 ≤ c ∧ c ≤ 122
        · refine Or.inr (Or.inl ⟨c - 32, ?_, by omega, by omega, ?_, ?_, ?_⟩)
          · unfold foldA; rw [if_neg h1, if_neg h2, if_neg h3, if_pos h4]
          · unfold foldA; rw [if_pos (by omega)]; omega
          · unfold low; rw [if_neg h1]; exact h2
          · unfold low; rw [if_neg h1]; exact h3
        · refine Or.inl ⟨?_, ?_, ?_⟩
          · unfold foldA; rw [if_neg h1, if_neg h2, if_neg h3, if_neg h4]
          · unfold low; rw [if_neg h1]; exact h2
          · unfold low; rw [if_neg h1]; exact h3
/-- Does the rune r meet the keyword's byte c beyond ASCII? -/
def meets (c r : Nat) : Bool := decide ((low c = 107 ∧ r = 8490) ∨ (low c = 115 ∧ r = 383))
end Go.Proofs.Qxb6612396aDoor
