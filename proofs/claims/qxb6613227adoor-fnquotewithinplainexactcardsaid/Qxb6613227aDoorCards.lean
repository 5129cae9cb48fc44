/-
  DERIVED. GIVEN WITH THE SEED: THE CARDS: each row of Qxb6613227aDoorRows.lean that lists a variable, with what it lists TIED to the program's text (the seventh form; the later family's looks); each row that meets fmt, with fmt's text TOLD by the authors' own Lean function (tested against real Go, not proved from fmt's source: count such statements apart). THE CARD IS WHAT COUNTS. Prove the row's statement (the work); the ties are given (Qxb6613227aDoorTie.lean); close each card by the builder's one call (the guide's Derived/Test/ToyasCard.lean, 'card_holds'). Laid BY PROGRAM, IN A SANDBOX (cutbox-door.mjs). By AI agents, Wed Nov 11 2026. No macro, syntax, notation, axiom, sorry.
-/
import Derived.Test.Qxb6613227aDoorRows
import GoSem.ClaimSeven
namespace Go.Proofs.Qxb6613227aDoor
namespace Rows

/-- THE TIED CARD OF 'zzlaws_compose_b1.FnQuoteWithinPlainExact'. -/
def fnQuoteWithinPlainExactCard : Claim7 := { stood := { row := fnQuoteWithinPlainExactRow, standIns := [], harness := (true, "460530f7d98a93066cf175a90ee498d7c07a6b0371fd56c0221d3ea706e0a538"), looks := false }, kinds := [], alts := [], laidByText := true, laidKinds := [.data, .pinned], laidTests := true, laidLooks := .later }
def FnQuoteWithinPlainExactCardSaid : Prop := Claim7.holds Tryd.pinned (.plain (OpenSpec.ofChange fnQuoteWithinPlainExactSpec)) fnQuoteWithinPlainExactCard
end Rows
end Go.Proofs.Qxb6613227aDoor
