/-
  No cell of these rows narrows 'for every input' (looked for: loops, veiled, ifaces, maps, wideKeys, modest, calm, conditions, laid).
  DERIVED. THE GIVEN ROWS OF THIS SEAT. 9 by the template 'for every input the law returns true; each argument reads behind the call as it read before'; 0 by the template 'total and deterministic' (their statements: Qxb6001400aTotals.lean).
  GIVEN WITH THE SEED: the statements are not yours to turn. If you find one false, say at which input.
  Laid BY PROGRAM, IN A SANDBOX (cutbox-rows.mjs): the forced cells as the released guide's own fill.sh prints them over the translation 020724fe586b0282… (all of the seat's roots in one cut). By AI agents, Wed Nov 11 2026. No macro, syntax, notation, axiom, sorry.
-/
import Derived.Test.Qxb6001400aChecked
import GoSem.Claim
import GoSem.ClaimJoined
import GoSem.ClaimMapViews
import Derived.JoinedTies
import Derived.KernelRfl
namespace Go.Proofs.Qxb6001400a
/- THE CELL 'sum', in the pinned program and in every row, IS THE sha256 OF THE DUMP (.gsa) THAT Qxb6001400aProg.lean LOADS. Nothing in Lean hashes anything: it is a label: what it is worth is what the hold of that sum in a sandbox is worth. -/
noncomputable def Try.pinned : Pinned := { name := "qxb6001400a", sum := "020724fe586b028267999ffcd7efcad431b6f9c207405edda517213917773fde", checked := Try.checked }
namespace Rows
def none {H : Type} : Left H := { results := [], args := [] }

/-- 'zzlaws_mtasts_b1.FnLowerASCIIIsLowerAndFixed': WHATEVER THE INPUT: true; the input reads as it did. -/
def fnLowerASCIIIsLowerAndFixedSpec : ChangeSpec := { name := "fnLowerASCIIIsLowerAndFixed", fn := fun _ => fun
  | [d] => { results := [.lit (.bool true)], args := [d] }
  | _ => none }
def fnLowerASCIIIsLowerAndFixedRow : OpenClaim := { program := "qxb6001400a", sum := "020724fe586b028267999ffcd7efcad431b6f9c207405edda517213917773fde", func := "example.com/ironpost/ironpost/zzlaws_mtasts_b1.FnLowerASCIIIsLowerAndFixed", spec := "fnLowerASCIIIsLowerAndFixed", unfollowed := true, recurses := true, apart := false }
def FnLowerASCIIIsLowerAndFixedSaid : Prop := fnLowerASCIIIsLowerAndFixedRow.holds Try.pinned (OpenSpec.ofChange fnLowerASCIIIsLowerAndFixedSpec)

/-- ITS FALSE NEIGHBOUR: 'it returns false'. Refute it at one input. -/
def fnLowerASCIIIsLowerAndFixedWrong : ChangeSpec := { name := "fnLowerASCIIIsLowerAndFixed", fn := fun _ => fun
  | [d] => { results := [.lit (.bool false)], args := [d] }
  | _ => none }
def FnLowerASCIIIsLowerAndFixedWrongFalsely : Prop := fnLowerASCIIIsLowerAndFixedRow.holds Try.pinned (OpenSpec.ofChange fnLowerASCIIIsLowerAndFixedWrong)

/-- 'zzlaws_mtasts_b1.FnLowerASCIICaseBlind': WHATEVER THE INPUT: true; the input reads as it did. -/
def fnLowerASCIICaseBlindSpec : ChangeSpec := { name := "fnLowerASCIICaseBlind", fn := fun _ => fun
  | [d1, d2] => { results := [.lit (.bool true)], args := [d1, d2] }
  | _ => none }
def fnLowerASCIICaseBlindRow : OpenClaim := { program := "qxb6001400a", sum := "020724fe586b028267999ffcd7efcad431b6f9c207405edda517213917773fde", func := "example.com/ironpost/ironpost/zzlaws_mtasts_b1.FnLowerASCIICaseBlind", spec := "fnLowerASCIICaseBlind", unfollowed := true, recurses := true, apart := false }
def FnLowerASCIICaseBlindSaid : Prop := fnLowerASCIICaseBlindRow.holds Try.pinned (OpenSpec.ofChange fnLowerASCIICaseBlindSpec)

/-- ITS FALSE NEIGHBOUR: 'it returns false'. Refute it at one input. -/
def fnLowerASCIICaseBlindWrong : ChangeSpec := { name := "fnLowerASCIICaseBlind", fn := fun _ => fun
  | [d1, d2] => { results := [.lit (.bool false)], args := [d1, d2] }
  | _ => none }
def FnLowerASCIICaseBlindWrongFalsely : Prop := fnLowerASCIICaseBlindRow.holds Try.pinned (OpenSpec.ofChange fnLowerASCIICaseBlindWrong)

/-- 'zzlaws_mtasts_b1.FnLowerASCIIConcat': WHATEVER THE INPUT: true; the input reads as it did. -/
def fnLowerASCIIConcatSpec : ChangeSpec := { name := "fnLowerASCIIConcat", fn := fun _ => fun
  | [d1, d2] => { results := [.lit (.bool true)], args := [d1, d2] }
  | _ => none }
def fnLowerASCIIConcatRow : OpenClaim := { program := "qxb6001400a", sum := "020724fe586b028267999ffcd7efcad431b6f9c207405edda517213917773fde", func := "example.com/ironpost/ironpost/zzlaws_mtasts_b1.FnLowerASCIIConcat", spec := "fnLowerASCIIConcat", unfollowed := true, recurses := true, apart := false }
def FnLowerASCIIConcatSaid : Prop := fnLowerASCIIConcatRow.holds Try.pinned (OpenSpec.ofChange fnLowerASCIIConcatSpec)

/-- ITS FALSE NEIGHBOUR: 'it returns false'. Refute it at one input. -/
def fnLowerASCIIConcatWrong : ChangeSpec := { name := "fnLowerASCIIConcat", fn := fun _ => fun
  | [d1, d2] => { results := [.lit (.bool false)], args := [d1, d2] }
  | _ => none }
def FnLowerASCIIConcatWrongFalsely : Prop := fnLowerASCIIConcatRow.holds Try.pinned (OpenSpec.ofChange fnLowerASCIIConcatWrong)

/-- 'zzlaws_mtasts_b1.FnValidHostNameCaseFree': WHATEVER THE INPUT: true; the input reads as it did. -/
def fnValidHostNameCaseFreeSpec : ChangeSpec := { name := "fnValidHostNameCaseFree", fn := fun _ => fun
  | [d] => { results := [.lit (.bool true)], args := [d] }
  | _ => none }
def fnValidHostNameCaseFreeRow : OpenClaim := { program := "qxb6001400a", sum := "020724fe586b028267999ffcd7efcad431b6f9c207405edda517213917773fde", func := "example.com/ironpost/ironpost/zzlaws_mtasts_b1.FnValidHostNameCaseFree", spec := "fnValidHostNameCaseFree", inPlace := ["internal/bytealg.IndexByteString", "internal/bytealg.IndexString"], unfollowed := true, recurses := true, named := ["internal/bytealg.MaxLen"], apart := false }
def FnValidHostNameCaseFreeSaid : Prop := fnValidHostNameCaseFreeRow.holds Try.pinned (OpenSpec.ofChange fnValidHostNameCaseFreeSpec)

/-- ITS FALSE NEIGHBOUR: 'it returns false'. Refute it at one input. -/
def fnValidHostNameCaseFreeWrong : ChangeSpec := { name := "fnValidHostNameCaseFree", fn := fun _ => fun
  | [d] => { results := [.lit (.bool false)], args := [d] }
  | _ => none }
def FnValidHostNameCaseFreeWrongFalsely : Prop := fnValidHostNameCaseFreeRow.holds Try.pinned (OpenSpec.ofChange fnValidHostNameCaseFreeWrong)

/-- 'zzlaws_mtasts_b1.FnValidHostNameLabelStep': WHATEVER THE INPUT: true; the input reads as it did. -/
def fnValidHostNameLabelStepSpec : ChangeSpec := { name := "fnValidHostNameLabelStep", fn := fun _ => fun
  | [d1, d2] => { results := [.lit (.bool true)], args := [d1, d2] }
  | _ => none }
def fnValidHostNameLabelStepRow : OpenClaim := { program := "qxb6001400a", sum := "020724fe586b028267999ffcd7efcad431b6f9c207405edda517213917773fde", func := "example.com/ironpost/ironpost/zzlaws_mtasts_b1.FnValidHostNameLabelStep", spec := "fnValidHostNameLabelStep", inPlace := ["internal/bytealg.IndexByteString", "internal/bytealg.IndexString"], unfollowed := true, recurses := true, named := ["internal/bytealg.MaxLen"], apart := false }
def FnValidHostNameLabelStepSaid : Prop := fnValidHostNameLabelStepRow.holds Try.pinned (OpenSpec.ofChange fnValidHostNameLabelStepSpec)

/-- ITS FALSE NEIGHBOUR: 'it returns false'. Refute it at one input. -/
def fnValidHostNameLabelStepWrong : ChangeSpec := { name := "fnValidHostNameLabelStep", fn := fun _ => fun
  | [d1, d2] => { results := [.lit (.bool false)], args := [d1, d2] }
  | _ => none }
def FnValidHostNameLabelStepWrongFalsely : Prop := fnValidHostNameLabelStepRow.holds Try.pinned (OpenSpec.ofChange fnValidHostNameLabelStepWrong)

/-- 'zzlaws_mtasts_b1.FnValidHostNameRefusals': WHATEVER THE INPUT: true; the input reads as it did. -/
def fnValidHostNameRefusalsSpec : ChangeSpec := { name := "fnValidHostNameRefusals", fn := fun _ => fun
  | [d1, d2] => { results := [.lit (.bool true)], args := [d1, d2] }
  | _ => none }
def fnValidHostNameRefusalsRow : OpenClaim := { program := "qxb6001400a", sum := "020724fe586b028267999ffcd7efcad431b6f9c207405edda517213917773fde", func := "example.com/ironpost/ironpost/zzlaws_mtasts_b1.FnValidHostNameRefusals", spec := "fnValidHostNameRefusals", inPlace := ["internal/bytealg.IndexByteString", "internal/bytealg.IndexString"], unfollowed := true, recurses := true, named := ["internal/bytealg.MaxLen"], apart := false }
def FnValidHostNameRefusalsSaid : Prop := fnValidHostNameRefusalsRow.holds Try.pinned (OpenSpec.ofChange fnValidHostNameRefusalsSpec)

/-- ITS FALSE NEIGHBOUR: 'it returns false'. Refute it at one input. -/
def fnValidHostNameRefusalsWrong : ChangeSpec := { name := "fnValidHostNameRefusals", fn := fun _ => fun
  | [d1, d2] => { results := [.lit (.bool false)], args := [d1, d2] }
  | _ => none }
def FnValidHostNameRefusalsWrongFalsely : Prop := fnValidHostNameRefusalsRow.holds Try.pinned (OpenSpec.ofChange fnValidHostNameRefusalsWrong)

/-- 'zzlaws_mtasts_b1.FnAllowsMXExactName': WHATEVER THE INPUT: true; the input reads as it did. -/
def fnAllowsMXExactNameSpec : ChangeSpec := { name := "fnAllowsMXExactName", fn := fun _ => fun
  | [d1, d2] => { results := [.lit (.bool true)], args := [d1, d2] }
  | _ => none }
def fnAllowsMXExactNameRow : OpenClaim := { program := "qxb6001400a", sum := "020724fe586b028267999ffcd7efcad431b6f9c207405edda517213917773fde", func := "example.com/ironpost/ironpost/zzlaws_mtasts_b1.FnAllowsMXExactName", spec := "fnAllowsMXExactName", inPlace := ["internal/bytealg.IndexByteString", "internal/bytealg.IndexString"], unfollowed := true, recurses := true, named := ["internal/bytealg.MaxLen"], apart := false }
def FnAllowsMXExactNameSaid : Prop := fnAllowsMXExactNameRow.holds Try.pinned (OpenSpec.ofChange fnAllowsMXExactNameSpec)

/-- ITS FALSE NEIGHBOUR: 'it returns false'. Refute it at one input. -/
def fnAllowsMXExactNameWrong : ChangeSpec := { name := "fnAllowsMXExactName", fn := fun _ => fun
  | [d1, d2] => { results := [.lit (.bool false)], args := [d1, d2] }
  | _ => none }
def FnAllowsMXExactNameWrongFalsely : Prop := fnAllowsMXExactNameRow.holds Try.pinned (OpenSpec.ofChange fnAllowsMXExactNameWrong)

/-- 'zzlaws_mtasts_b1.FnAllowsMXWildcardOneLabel': WHATEVER THE INPUT: true; the input reads as it did. -/
def fnAllowsMXWildcardOneLabelSpec : ChangeSpec := { name := "fnAllowsMXWildcardOneLabel", fn := fun _ => fun
  | [d1, d2] => { results := [.lit (.bool true)], args := [d1, d2] }
  | _ => none }
def fnAllowsMXWildcardOneLabelRow : OpenClaim := { program := "qxb6001400a", sum := "020724fe586b028267999ffcd7efcad431b6f9c207405edda517213917773fde", func := "example.com/ironpost/ironpost/zzlaws_mtasts_b1.FnAllowsMXWildcardOneLabel", spec := "fnAllowsMXWildcardOneLabel", inPlace := ["internal/bytealg.IndexByteString", "internal/bytealg.IndexString"], unfollowed := true, recurses := true, named := ["internal/bytealg.MaxLen"], apart := false }
def FnAllowsMXWildcardOneLabelSaid : Prop := fnAllowsMXWildcardOneLabelRow.holds Try.pinned (OpenSpec.ofChange fnAllowsMXWildcardOneLabelSpec)

/-- ITS FALSE NEIGHBOUR: 'it returns false'. Refute it at one input. -/
def fnAllowsMXWildcardOneLabelWrong : ChangeSpec := { name := "fnAllowsMXWildcardOneLabel", fn := fun _ => fun
  | [d1, d2] => { results := [.lit (.bool false)], args := [d1, d2] }
  | _ => none }
def FnAllowsMXWildcardOneLabelWrongFalsely : Prop := fnAllowsMXWildcardOneLabelRow.holds Try.pinned (OpenSpec.ofChange fnAllowsMXWildcardOneLabelWrong)

/-- 'zzlaws_mtasts_b1.FnAllowsMXUnion': WHATEVER THE INPUT: true; the input reads as it did. -/
def fnAllowsMXUnionSpec : ChangeSpec := { name := "fnAllowsMXUnion", fn := fun _ => fun
  | [d1, d2, d3] => { results := [.lit (.bool true)], args := [d1, d2, d3] }
  | _ => none }
def fnAllowsMXUnionRow : OpenClaim := { program := "qxb6001400a", sum := "020724fe586b028267999ffcd7efcad431b6f9c207405edda517213917773fde", func := "example.com/ironpost/ironpost/zzlaws_mtasts_b1.FnAllowsMXUnion", spec := "fnAllowsMXUnion", inPlace := ["internal/bytealg.IndexByteString", "internal/bytealg.IndexString"], unfollowed := true, recurses := true, named := ["internal/bytealg.MaxLen"], apart := false }
def FnAllowsMXUnionSaid : Prop := fnAllowsMXUnionRow.holds Try.pinned (OpenSpec.ofChange fnAllowsMXUnionSpec)

/-- ITS FALSE NEIGHBOUR: 'it returns false'. Refute it at one input. -/
def fnAllowsMXUnionWrong : ChangeSpec := { name := "fnAllowsMXUnion", fn := fun _ => fun
  | [d1, d2, d3] => { results := [.lit (.bool false)], args := [d1, d2, d3] }
  | _ => none }
def FnAllowsMXUnionWrongFalsely : Prop := fnAllowsMXUnionRow.holds Try.pinned (OpenSpec.ofChange fnAllowsMXUnionWrong)

end Rows
end Go.Proofs.Qxb6001400a
