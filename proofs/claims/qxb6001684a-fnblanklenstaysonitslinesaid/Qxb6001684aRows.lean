/-
  No cell of these rows narrows 'for every input' (looked for: loops, veiled, ifaces, maps, wideKeys, modest, calm, conditions, laid).
  DERIVED. THE GIVEN ROWS OF THIS SEAT. 7 by the template 'for every input the law returns true; each argument reads behind the call as it read before'; 0 by the template 'total and deterministic' (their statements: Qxb6001684aTotals.lean).
  GIVEN WITH THE SEED: the statements are not yours to turn. If you find one false, say at which input.
  Laid BY PROGRAM, IN A SANDBOX (cutbox-rows.mjs): the forced cells as the released guide's own fill.sh prints them over the translation af8cbfbc3c94ab2f… (all of the seat's roots in one cut). By AI agents, Wed Nov 11 2026. No macro, syntax, notation, axiom, sorry.
-/
import Derived.Test.Qxb6001684aChecked
import GoSem.Claim
import GoSem.ClaimJoined
import GoSem.ClaimMapViews
import Derived.JoinedTies
import Derived.KernelRfl
namespace Go.Proofs.Qxb6001684a
/- THE CELL 'sum', in the pinned program and in every row, IS THE sha256 OF THE DUMP (.gsa) THAT Qxb6001684aProg.lean LOADS. Nothing in Lean hashes anything: it is a label: what it is worth is what the hold of that sum in a sandbox is worth. -/
noncomputable def Try.pinned : Pinned := { name := "qxb6001684a", sum := "af8cbfbc3c94ab2f5be4887bcd38e025fc0b93badbe62ba8311b42fe68298520", checked := Try.checked }
namespace Rows
def none {H : Type} : Left H := { results := [], args := [] }

/-- 'zzlaws_sqlparse_g1.FnCloseQuoteFindsTheEndOfEncodedText': WHATEVER THE INPUT: true; the input reads as it did. -/
def fnCloseQuoteFindsTheEndOfEncodedTextSpec : ChangeSpec := { name := "fnCloseQuoteFindsTheEndOfEncodedText", fn := fun _ => fun
  | [d1, d2, d3] => { results := [.lit (.bool true)], args := [d1, d2, d3] }
  | _ => none }
def fnCloseQuoteFindsTheEndOfEncodedTextRow : OpenClaim := { program := "qxb6001684a", sum := "af8cbfbc3c94ab2f5be4887bcd38e025fc0b93badbe62ba8311b42fe68298520", func := "example.com/gapwise/gapwise/zzlaws_sqlparse_g1.FnCloseQuoteFindsTheEndOfEncodedText", spec := "fnCloseQuoteFindsTheEndOfEncodedText", apart := false }
def FnCloseQuoteFindsTheEndOfEncodedTextSaid : Prop := fnCloseQuoteFindsTheEndOfEncodedTextRow.holds Try.pinned (OpenSpec.ofChange fnCloseQuoteFindsTheEndOfEncodedTextSpec)

/-- ITS FALSE NEIGHBOUR: 'it returns false'. Refute it at one input. -/
def fnCloseQuoteFindsTheEndOfEncodedTextWrong : ChangeSpec := { name := "fnCloseQuoteFindsTheEndOfEncodedText", fn := fun _ => fun
  | [d1, d2, d3] => { results := [.lit (.bool false)], args := [d1, d2, d3] }
  | _ => none }
def FnCloseQuoteFindsTheEndOfEncodedTextWrongFalsely : Prop := fnCloseQuoteFindsTheEndOfEncodedTextRow.holds Try.pinned (OpenSpec.ofChange fnCloseQuoteFindsTheEndOfEncodedTextWrong)

/-- 'zzlaws_sqlparse_g1.FnCloseQuoteEndIsSettledByTheNextByte': WHATEVER THE INPUT: true; the input reads as it did. -/
def fnCloseQuoteEndIsSettledByTheNextByteSpec : ChangeSpec := { name := "fnCloseQuoteEndIsSettledByTheNextByte", fn := fun _ => fun
  | [d1, d2, d3] => { results := [.lit (.bool true)], args := [d1, d2, d3] }
  | _ => none }
def fnCloseQuoteEndIsSettledByTheNextByteRow : OpenClaim := { program := "qxb6001684a", sum := "af8cbfbc3c94ab2f5be4887bcd38e025fc0b93badbe62ba8311b42fe68298520", func := "example.com/gapwise/gapwise/zzlaws_sqlparse_g1.FnCloseQuoteEndIsSettledByTheNextByte", spec := "fnCloseQuoteEndIsSettledByTheNextByte", apart := false }
def FnCloseQuoteEndIsSettledByTheNextByteSaid : Prop := fnCloseQuoteEndIsSettledByTheNextByteRow.holds Try.pinned (OpenSpec.ofChange fnCloseQuoteEndIsSettledByTheNextByteSpec)

/-- ITS FALSE NEIGHBOUR: 'it returns false'. Refute it at one input. -/
def fnCloseQuoteEndIsSettledByTheNextByteWrong : ChangeSpec := { name := "fnCloseQuoteEndIsSettledByTheNextByte", fn := fun _ => fun
  | [d1, d2, d3] => { results := [.lit (.bool false)], args := [d1, d2, d3] }
  | _ => none }
def FnCloseQuoteEndIsSettledByTheNextByteWrongFalsely : Prop := fnCloseQuoteEndIsSettledByTheNextByteRow.holds Try.pinned (OpenSpec.ofChange fnCloseQuoteEndIsSettledByTheNextByteWrong)

/-- 'zzlaws_sqlparse_g1.FnBlankLenStaysOnItsLine': WHATEVER THE INPUT: true; the input reads as it did. -/
def fnBlankLenStaysOnItsLineSpec : ChangeSpec := { name := "fnBlankLenStaysOnItsLine", fn := fun _ => fun
  | [d1, d2] => { results := [.lit (.bool true)], args := [d1, d2] }
  | _ => none }
def fnBlankLenStaysOnItsLineRow : OpenClaim := { program := "qxb6001684a", sum := "af8cbfbc3c94ab2f5be4887bcd38e025fc0b93badbe62ba8311b42fe68298520", func := "example.com/gapwise/gapwise/zzlaws_sqlparse_g1.FnBlankLenStaysOnItsLine", spec := "fnBlankLenStaysOnItsLine", inPlace := ["internal/bytealg.IndexByteString"], apart := false }
def FnBlankLenStaysOnItsLineSaid : Prop := fnBlankLenStaysOnItsLineRow.holds Try.pinned (OpenSpec.ofChange fnBlankLenStaysOnItsLineSpec)

/-- ITS FALSE NEIGHBOUR: 'it returns false'. Refute it at one input. -/
def fnBlankLenStaysOnItsLineWrong : ChangeSpec := { name := "fnBlankLenStaysOnItsLine", fn := fun _ => fun
  | [d1, d2] => { results := [.lit (.bool false)], args := [d1, d2] }
  | _ => none }
def FnBlankLenStaysOnItsLineWrongFalsely : Prop := fnBlankLenStaysOnItsLineRow.holds Try.pinned (OpenSpec.ofChange fnBlankLenStaysOnItsLineWrong)

/-- 'zzlaws_sqlparse_g1.FnExponentLenIsTheLongestExponent': WHATEVER THE INPUT: true; the input reads as it did. -/
def fnExponentLenIsTheLongestExponentSpec : ChangeSpec := { name := "fnExponentLenIsTheLongestExponent", fn := fun _ => fun
  | [d1, d2] => { results := [.lit (.bool true)], args := [d1, d2] }
  | _ => none }
def fnExponentLenIsTheLongestExponentRow : OpenClaim := { program := "qxb6001684a", sum := "af8cbfbc3c94ab2f5be4887bcd38e025fc0b93badbe62ba8311b42fe68298520", func := "example.com/gapwise/gapwise/zzlaws_sqlparse_g1.FnExponentLenIsTheLongestExponent", spec := "fnExponentLenIsTheLongestExponent", apart := false }
def FnExponentLenIsTheLongestExponentSaid : Prop := fnExponentLenIsTheLongestExponentRow.holds Try.pinned (OpenSpec.ofChange fnExponentLenIsTheLongestExponentSpec)

/-- ITS FALSE NEIGHBOUR: 'it returns false'. Refute it at one input. -/
def fnExponentLenIsTheLongestExponentWrong : ChangeSpec := { name := "fnExponentLenIsTheLongestExponent", fn := fun _ => fun
  | [d1, d2] => { results := [.lit (.bool false)], args := [d1, d2] }
  | _ => none }
def FnExponentLenIsTheLongestExponentWrongFalsely : Prop := fnExponentLenIsTheLongestExponentRow.holds Try.pinned (OpenSpec.ofChange fnExponentLenIsTheLongestExponentWrong)

/-- 'zzlaws_sqlparse_g2.FnDigitsLenMaximalRunAndConcat': WHATEVER THE INPUT: true; the input reads as it did. -/
def fnDigitsLenMaximalRunAndConcatSpec : ChangeSpec := { name := "fnDigitsLenMaximalRunAndConcat", fn := fun _ => fun
  | [d1, d2] => { results := [.lit (.bool true)], args := [d1, d2] }
  | _ => none }
def fnDigitsLenMaximalRunAndConcatRow : OpenClaim := { program := "qxb6001684a", sum := "af8cbfbc3c94ab2f5be4887bcd38e025fc0b93badbe62ba8311b42fe68298520", func := "example.com/gapwise/gapwise/zzlaws_sqlparse_g2.FnDigitsLenMaximalRunAndConcat", spec := "fnDigitsLenMaximalRunAndConcat", apart := false }
def FnDigitsLenMaximalRunAndConcatSaid : Prop := fnDigitsLenMaximalRunAndConcatRow.holds Try.pinned (OpenSpec.ofChange fnDigitsLenMaximalRunAndConcatSpec)

/-- ITS FALSE NEIGHBOUR: 'it returns false'. Refute it at one input. -/
def fnDigitsLenMaximalRunAndConcatWrong : ChangeSpec := { name := "fnDigitsLenMaximalRunAndConcat", fn := fun _ => fun
  | [d1, d2] => { results := [.lit (.bool false)], args := [d1, d2] }
  | _ => none }
def FnDigitsLenMaximalRunAndConcatWrongFalsely : Prop := fnDigitsLenMaximalRunAndConcatRow.holds Try.pinned (OpenSpec.ofChange fnDigitsLenMaximalRunAndConcatWrong)

/-- 'zzlaws_sqlparse_g2.FnIdentLenMaximalRunCoversDigits': WHATEVER THE INPUT: true; the input reads as it did. -/
def fnIdentLenMaximalRunCoversDigitsSpec : ChangeSpec := { name := "fnIdentLenMaximalRunCoversDigits", fn := fun _ => fun
  | [d1, d2] => { results := [.lit (.bool true)], args := [d1, d2] }
  | _ => none }
def fnIdentLenMaximalRunCoversDigitsRow : OpenClaim := { program := "qxb6001684a", sum := "af8cbfbc3c94ab2f5be4887bcd38e025fc0b93badbe62ba8311b42fe68298520", func := "example.com/gapwise/gapwise/zzlaws_sqlparse_g2.FnIdentLenMaximalRunCoversDigits", spec := "fnIdentLenMaximalRunCoversDigits", apart := false }
def FnIdentLenMaximalRunCoversDigitsSaid : Prop := fnIdentLenMaximalRunCoversDigitsRow.holds Try.pinned (OpenSpec.ofChange fnIdentLenMaximalRunCoversDigitsSpec)

/-- ITS FALSE NEIGHBOUR: 'it returns false'. Refute it at one input. -/
def fnIdentLenMaximalRunCoversDigitsWrong : ChangeSpec := { name := "fnIdentLenMaximalRunCoversDigits", fn := fun _ => fun
  | [d1, d2] => { results := [.lit (.bool false)], args := [d1, d2] }
  | _ => none }
def FnIdentLenMaximalRunCoversDigitsWrongFalsely : Prop := fnIdentLenMaximalRunCoversDigitsRow.holds Try.pinned (OpenSpec.ofChange fnIdentLenMaximalRunCoversDigitsWrong)

/-- 'zzlaws_sqlparse_g2.FnDecimalOnlySplitsOverConcat': WHATEVER THE INPUT: true; the input reads as it did. -/
def fnDecimalOnlySplitsOverConcatSpec : ChangeSpec := { name := "fnDecimalOnlySplitsOverConcat", fn := fun _ => fun
  | [d1, d2] => { results := [.lit (.bool true)], args := [d1, d2] }
  | _ => none }
def fnDecimalOnlySplitsOverConcatRow : OpenClaim := { program := "qxb6001684a", sum := "af8cbfbc3c94ab2f5be4887bcd38e025fc0b93badbe62ba8311b42fe68298520", func := "example.com/gapwise/gapwise/zzlaws_sqlparse_g2.FnDecimalOnlySplitsOverConcat", spec := "fnDecimalOnlySplitsOverConcat", apart := false }
def FnDecimalOnlySplitsOverConcatSaid : Prop := fnDecimalOnlySplitsOverConcatRow.holds Try.pinned (OpenSpec.ofChange fnDecimalOnlySplitsOverConcatSpec)

/-- ITS FALSE NEIGHBOUR: 'it returns false'. Refute it at one input. -/
def fnDecimalOnlySplitsOverConcatWrong : ChangeSpec := { name := "fnDecimalOnlySplitsOverConcat", fn := fun _ => fun
  | [d1, d2] => { results := [.lit (.bool false)], args := [d1, d2] }
  | _ => none }
def FnDecimalOnlySplitsOverConcatWrongFalsely : Prop := fnDecimalOnlySplitsOverConcatRow.holds Try.pinned (OpenSpec.ofChange fnDecimalOnlySplitsOverConcatWrong)

end Rows
end Go.Proofs.Qxb6001684a
