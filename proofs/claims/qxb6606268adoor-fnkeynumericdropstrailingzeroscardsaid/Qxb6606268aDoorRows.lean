/-
  NARROWER THAN 'FOR EVERY INPUT', by the rows' own cells (each row's printed sentence says how): FnIsDigitsExact: laid · FnKeyNumericDropsTrailingZeros: laid.
  DERIVED. THE GIVEN ROWS OF THIS SEAT. 2 by the template 'for every input the law returns true; each argument reads behind the call as it read before'; 0 by the template 'total and deterministic' (their statements: Qxb6606268aDoorTotals.lean).
  GIVEN WITH THE SEED: the statements are not yours to turn. If you find one false, say at which input.
  Laid BY PROGRAM, IN A SANDBOX (cutbox-rows.mjs): the forced cells as the released guide's own fill.sh prints them over the translation 31b222c48deb832a… (all of the seat's roots in one cut). By AI agents, Wed Nov 11 2026. No macro, syntax, notation, axiom, sorry.
-/
import Derived.Test.Qxb6606268aDoorChecked
import GoSem.PinnedTables
import GoSem.Claim
import GoSem.ClaimJoined
import GoSem.ClaimMapViews
import Derived.JoinedTies
import Derived.KernelRfl
namespace Go.Proofs.Qxb6606268aDoor
/- THE CELL 'sum', in the pinned program and in every row, IS THE sha256 OF THE DUMP (.gsa) THAT Qxb6606268aDoorProg.lean LOADS. Nothing in Lean hashes anything: it is a label: what it is worth is what the hold of that sum in a sandbox is worth. -/
noncomputable def Tryd.pinned : Pinned := { name := "qxb6606268adoor", sum := "31b222c48deb832a9620094d3f57db89160cf15430805ce1266f875aa72b14c3", checked := Tryd.checked }
namespace Rows
def none {H : Type} : Left H := { results := [], args := [] }

/- WHAT THE LISTED PACKAGE-LEVEL VARIABLES READ AS WHEN THE CALL BEGINS. Each datum BY PROGRAM (the guide's laid-datum.mjs) off the statement by which the dump's own 'gosem.cut.vars' lays the variable. In a bare row this is a premise. The card (Qxb6606268aDoorCards.lean) ties it to the program's text. -/
def laid_unicode_utf8_acceptRanges {H : Type} : DataW H := .agg [.agg [.lit (.int .u8 128), .lit (.int .u8 191)], .agg [.lit (.int .u8 160), .lit (.int .u8 191)], .agg [.lit (.int .u8 128), .lit (.int .u8 159)], .agg [.lit (.int .u8 144), .lit (.int .u8 191)], .agg [.lit (.int .u8 128), .lit (.int .u8 143)], .agg [.lit (.int .u8 0), .lit (.int .u8 0)], .agg [.lit (.int .u8 0), .lit (.int .u8 0)], .agg [.lit (.int .u8 0), .lit (.int .u8 0)], .agg [.lit (.int .u8 0), .lit (.int .u8 0)], .agg [.lit (.int .u8 0), .lit (.int .u8 0)], .agg [.lit (.int .u8 0), .lit (.int .u8 0)], .agg [.lit (.int .u8 0), .lit (.int .u8 0)], .agg [.lit (.int .u8 0), .lit (.int .u8 0)], .agg [.lit (.int .u8 0), .lit (.int .u8 0)], .agg [.lit (.int .u8 0), .lit (.int .u8 0)], .agg [.lit (.int .u8 0), .lit (.int .u8 0)]]
/-- One of Go's own tables, pinned by name: the form's constant. -/
def laid_unicode_utf8_first : DataW Unit := Go.Pinned.utf8First

/-- 'zzlaws_internal_types_b1.FnIsDigitsExact': WHATEVER THE INPUT: true; the input reads as it did. -/
def fnIsDigitsExactSpec : ChangeSpec := { name := "fnIsDigitsExact", fn := fun _ => fun
  | [d] => { results := [.lit (.bool true)], args := [d] }
  | _ => none }
def fnIsDigitsExactRow : OpenClaim := { program := "qxb6606268adoor", sum := "31b222c48deb832a9620094d3f57db89160cf15430805ce1266f875aa72b14c3", func := "example.com/firstwin/firstwin/zzlaws_internal_types_b1.FnIsDigitsExact", spec := "fnIsDigitsExact", inPlace := ["internal/bytealg.IndexByteString", "internal/bytealg.IndexString"], named := ["unicode/utf8.first", "unicode/utf8.acceptRanges", "internal/bytealg.MaxLen"], apart := false, laid := [("unicode/utf8.acceptRanges", laid_unicode_utf8_acceptRanges), ("unicode/utf8.first", laid_unicode_utf8_first)] }
def FnIsDigitsExactSaid : Prop := fnIsDigitsExactRow.holds Tryd.pinned (OpenSpec.ofChange fnIsDigitsExactSpec)

/-- ITS FALSE NEIGHBOUR: 'it returns false'. Refute it at one input. -/
def fnIsDigitsExactWrong : ChangeSpec := { name := "fnIsDigitsExact", fn := fun _ => fun
  | [d] => { results := [.lit (.bool false)], args := [d] }
  | _ => none }
def FnIsDigitsExactWrongFalsely : Prop := fnIsDigitsExactRow.holds Tryd.pinned (OpenSpec.ofChange fnIsDigitsExactWrong)

/-- 'zzlaws_internal_types_b1.FnKeyNumericDropsTrailingZeros': WHATEVER THE INPUT: true; the input reads as it did. -/
def fnKeyNumericDropsTrailingZerosSpec : ChangeSpec := { name := "fnKeyNumericDropsTrailingZeros", fn := fun _ => fun
  | [d1, d2, d3, d4] => { results := [.lit (.bool true)], args := [d1, d2, d3, d4] }
  | _ => none }
def fnKeyNumericDropsTrailingZerosRow : OpenClaim := { program := "qxb6606268adoor", sum := "31b222c48deb832a9620094d3f57db89160cf15430805ce1266f875aa72b14c3", func := "example.com/firstwin/firstwin/zzlaws_internal_types_b1.FnKeyNumericDropsTrailingZeros", spec := "fnKeyNumericDropsTrailingZeros", inPlace := ["internal/bytealg.IndexByteString", "internal/bytealg.IndexString", "internal/abi.NoEscape", "internal/bytealg.MakeNoZero"], named := ["unicode/utf8.first", "unicode/utf8.acceptRanges", "internal/bytealg.MaxLen"], apart := false, laid := [("unicode/utf8.acceptRanges", laid_unicode_utf8_acceptRanges), ("unicode/utf8.first", laid_unicode_utf8_first)] }
def FnKeyNumericDropsTrailingZerosSaid : Prop := fnKeyNumericDropsTrailingZerosRow.holds Tryd.pinned (OpenSpec.ofChange fnKeyNumericDropsTrailingZerosSpec)

/-- ITS FALSE NEIGHBOUR: 'it returns false'. Refute it at one input. -/
def fnKeyNumericDropsTrailingZerosWrong : ChangeSpec := { name := "fnKeyNumericDropsTrailingZeros", fn := fun _ => fun
  | [d1, d2, d3, d4] => { results := [.lit (.bool false)], args := [d1, d2, d3, d4] }
  | _ => none }
def FnKeyNumericDropsTrailingZerosWrongFalsely : Prop := fnKeyNumericDropsTrailingZerosRow.holds Tryd.pinned (OpenSpec.ofChange fnKeyNumericDropsTrailingZerosWrong)

end Rows
end Go.Proofs.Qxb6606268aDoor
