/-
  DERIVED. GIVEN WITH THE SEED: THE CARDS: each row of Qxb6613210aGreatFmtRows.lean that lists a variable, with what it lists TIED to the program's text (the seventh form; the later family's looks); each row that meets fmt, with fmt's text TOLD by the authors' own Lean function (tested against real Go, not proved from fmt's source: count such statements apart). THE CARD IS WHAT COUNTS. Prove the row's statement (the work); the ties are given (Qxb6613210aGreatFmtTie.lean); close each card by the builder's one call (the guide's Derived/Test/ToyasCard.lean, 'card_holds'). Laid BY PROGRAM, IN A SANDBOX (cutbox-door.mjs). By AI agents, Wed Nov 11 2026. No macro, syntax, notation, axiom, sorry.
-/
import Derived.Test.Qxb6613210aGreatFmtRows
import GoSem.ClaimSeven
namespace Go.Proofs.Qxb6613210aGreatFmt
namespace Rows

/-- THE TOLD AND TIED CARD OF 'zzlaws_kernconf_b1.FnErrorAtSpecStart'. -/
def fnErrorAtSpecStartCard : Claim7 := { stood := { row := fnErrorAtSpecStartRow, standIns := [], harness := (true, "5697ec7dbb6f0fd9e79cacbb8cdc97ee7f0671586e2655beb3694a23d46478fe"), looks := true }, told := true, laidByText := true, laidKinds := [.data, .data, .data, .data, .sentinel, .sentinel, .mapped, .mapped, .pinned, .pinned, .pinned, .pinned, .pinned, .pinned], laidTests := true, laidLooks := .later, goes := false }
def FnErrorAtSpecStartToldSaid : Prop := Claim7.holds Tryz.pinned (.plain (OpenSpec.ofChange fnErrorAtSpecStartSpec)) fnErrorAtSpecStartCard
/-- ITS FALSE NEIGHBOUR. Refute it at one input. -/
def FnErrorAtSpecStartToldWrongFalsely : Prop := Claim7.holds Tryz.pinned (.plain (OpenSpec.ofChange fnErrorAtSpecStartWrong)) fnErrorAtSpecStartCard

/-- THE TOLD AND TIED CARD OF 'zzlaws_kernconf_b1.FnAddLeavesLexing'. -/
def fnAddLeavesLexingCard : Claim7 := { stood := { row := fnAddLeavesLexingRow, standIns := [], harness := (true, "5697ec7dbb6f0fd9e79cacbb8cdc97ee7f0671586e2655beb3694a23d46478fe"), looks := true }, told := true, laidByText := true, laidKinds := [.data, .data, .data, .data, .sentinel, .sentinel, .mapped, .mapped, .pinned], laidTests := true, laidLooks := .later, goes := false }
def FnAddLeavesLexingToldSaid : Prop := Claim7.holds Tryz.pinned (.plain (OpenSpec.ofChange fnAddLeavesLexingSpec)) fnAddLeavesLexingCard
/-- ITS FALSE NEIGHBOUR. Refute it at one input. -/
def FnAddLeavesLexingToldWrongFalsely : Prop := Claim7.holds Tryz.pinned (.plain (OpenSpec.ofChange fnAddLeavesLexingWrong)) fnAddLeavesLexingCard
end Rows
end Go.Proofs.Qxb6613210aGreatFmt
