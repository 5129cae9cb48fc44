import Derived.Test.Qxb6613210aGreatFmtPlain3
import Derived.Lib.QuoteLoop
import Derived.Laws.BytesArg
namespace Go.Proofs.Qxb6613210aGreatFmt
namespace Pl
/-- A byte of ASCII between Go's quotes, as the law's own quotedASCII has it. -/
def qEsc (c : UInt8) : List Int :=
  if c.toNat = 34 ∨ c.toNat = 92 then [92, (c.toNat : Int)]
  else if c.toNat = 7 then [92, 97] else if c.toNat = 8 then [92, 98] else if c.toNat = 9 then [92, 116] else if c.toNat = 10 then [92, 110]
  else if c.toNat = 11 then [92, 118] else if c.toNat = 12 then [92, 102] else if c.toNat = 13 then [92, 114]
  else if c.toNat < 32 ∨ c.toNat = 127 then [92, 120, Lib.hexDigit (c.toNat / 16), Lib.hexDigit (c.toNat % 16)]
  else [(c.toNat : Int)]
theorem qEsc_len (c : UInt8) : (qEsc c).length ≤ 4 := by
  unfold qEsc
  (repeat' split) <;> simp
/-- The bytes ahead of place k, quoted; the opening quote ahead. -/
def qHead (l : List UInt8) : List Int := 34 :: l.flatMap qEsc
theorem qHead_snoc (l : List UInt8) (c : UInt8) : qHead (l ++ [c]) = qHead l ++ qEsc c := by
  unfold qHead; rw [List.flatMap_append]; simp
theorem qHead_len (l : List UInt8) : (qHead l).length ≤ 4 * l.length + 1 := by
  unfold qHead
  induction l with
  | nil => simp
  | cons c l ih =>
    have := qEsc_len c
    simp only [List.flatMap_cons, List.length_cons, List.length_append] at ih ⊢
    omega
end Pl
end Go.Proofs.Qxb6613210aGreatFmt
