/-
  DERIVED. GIVEN WITH THE SEED: THE CARDS: each row of Qxb6612396aDoorRows.lean that lists a variable, with what it lists TIED to the program's text (the seventh form; the later family's looks); each row that meets fmt, with fmt's text TOLD by the authors' own Lean function (tested against real Go, not proved from fmt's source: count such statements apart). THE CARD IS WHAT COUNTS. Prove the row's statement (the work); the ties are given (Qxb6612396aDoorTie.lean); close each card by the builder's one call (the guide's Derived/Test/ToyasCard.lean, 'card_holds'). Laid BY PROGRAM, IN A SANDBOX (cutbox-door.mjs). By AI agents, Wed Nov 11 2026. No macro, syntax, notation, axiom, sorry.
-/
import Derived.Test.Qxb6612396aDoorRows
import GoSem.ClaimSeven
namespace Go.Proofs.Qxb6612396aDoor
namespace Rows

/-- THE TIED CARD OF 'zzlaws_internal_sqltext_b1.FnTokenIsMatchesKeywordByCaseFolding'. -/
def fnTokenIsMatchesKeywordByCaseFoldingCard : Claim7 := { stood := { row := fnTokenIsMatchesKeywordByCaseFoldingRow, standIns := [], harness := (true, "866d4f4056ce623ed141b04661ac3eb602b113918ff90f5fbca3d49b559dded8"), looks := false }, kinds := [], alts := [], laidByText := true, laidKinds := [.data, .data, .data, .pinned, .pinned], laidTests := true, laidLooks := .later }
def FnTokenIsMatchesKeywordByCaseFoldingCardSaid : Prop := Claim7.holds Tryd.pinned (.plain (OpenSpec.ofChange fnTokenIsMatchesKeywordByCaseFoldingSpec)) fnTokenIsMatchesKeywordByCaseFoldingCard

/-- THE TIED CARD OF 'zzlaws_internal_sqltext_b1.FnTokenIsReflexiveSymmetricAndWordsOnly'. -/
def fnTokenIsReflexiveSymmetricAndWordsOnlyCard : Claim7 := { stood := { row := fnTokenIsReflexiveSymmetricAndWordsOnlyRow, standIns := [], harness := (true, "866d4f4056ce623ed141b04661ac3eb602b113918ff90f5fbca3d49b559dded8"), looks := false }, kinds := [], alts := [], laidByText := true, laidKinds := [.data, .data, .data, .pinned, .pinned], laidTests := true, laidLooks := .later }
def FnTokenIsReflexiveSymmetricAndWordsOnlyCardSaid : Prop := Claim7.holds Tryd.pinned (.plain (OpenSpec.ofChange fnTokenIsReflexiveSymmetricAndWordsOnlySpec)) fnTokenIsReflexiveSymmetricAndWordsOnlyCard
end Rows
end Go.Proofs.Qxb6612396aDoor
