/-
  DERIVED. GIVEN WITH THE SEED: THE CARDS: each row of Qxb6606268aDoorRows.lean that lists a variable, with what it lists TIED to the program's text (the seventh form; the later family's looks); each row that meets fmt, with fmt's text TOLD by the authors' own Lean function (tested against real Go, not proved from fmt's source: count such statements apart). THE CARD IS WHAT COUNTS. Prove the row's statement (the work); the ties are given (Qxb6606268aDoorTie.lean); close each card by the builder's one call (the guide's Derived/Test/ToyasCard.lean, 'card_holds'). Laid BY PROGRAM, IN A SANDBOX (cutbox-door.mjs). By AI agents, Wed Nov 11 2026. No macro, syntax, notation, axiom, sorry.
-/
import Derived.Test.Qxb6606268aDoorRows
import GoSem.ClaimSeven
namespace Go.Proofs.Qxb6606268aDoor
namespace Rows

/-- THE TIED CARD OF 'zzlaws_internal_types_b1.FnIsDigitsExact'. -/
def fnIsDigitsExactCard : Claim7 := { stood := { row := fnIsDigitsExactRow, standIns := [], harness := (true, "fbab013aa8e04d75df7dd4f0d0b8ef1a811274f4288e5489fe78d15809cdecd8"), looks := true }, kinds := [], alts := [], laidByText := true, laidKinds := [.data, .pinned], laidTests := true, laidLooks := .later }
def FnIsDigitsExactCardSaid : Prop := Claim7.holds Tryd.pinned (.plain (OpenSpec.ofChange fnIsDigitsExactSpec)) fnIsDigitsExactCard

/-- THE TIED CARD OF 'zzlaws_internal_types_b1.FnKeyNumericDropsTrailingZeros'. -/
def fnKeyNumericDropsTrailingZerosCard : Claim7 := { stood := { row := fnKeyNumericDropsTrailingZerosRow, standIns := [], harness := (true, "fbab013aa8e04d75df7dd4f0d0b8ef1a811274f4288e5489fe78d15809cdecd8"), looks := true }, kinds := [], alts := [], laidByText := true, laidKinds := [.data, .pinned], laidTests := true, laidLooks := .later }
def FnKeyNumericDropsTrailingZerosCardSaid : Prop := Claim7.holds Tryd.pinned (.plain (OpenSpec.ofChange fnKeyNumericDropsTrailingZerosSpec)) fnKeyNumericDropsTrailingZerosCard
end Rows
end Go.Proofs.Qxb6606268aDoor
