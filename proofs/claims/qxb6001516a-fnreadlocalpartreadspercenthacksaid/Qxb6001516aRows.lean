/-
  No cell of these rows narrows 'for every input' (looked for: loops, veiled, ifaces, maps, wideKeys, modest, calm, conditions, laid).
  DERIVED. THE GIVEN ROWS OF THIS SEAT. 5 by the template 'for every input the law returns true; each argument reads behind the call as it read before'; 0 by the template 'total and deterministic' (their statements: Qxb6001516aTotals.lean).
  GIVEN WITH THE SEED: the statements are not yours to turn. If you find one false, say at which input.
  Laid BY PROGRAM, IN A SANDBOX (cutbox-rows.mjs): the forced cells as the released guide's own fill.sh prints them over the translation e43076d2563b67a0… (all of the seat's roots in one cut). By AI agents, Wed Nov 11 2026. No macro, syntax, notation, axiom, sorry.
-/
import Derived.Test.Qxb6001516aChecked
import GoSem.Claim
import GoSem.ClaimJoined
import GoSem.ClaimMapViews
import Derived.JoinedTies
import Derived.KernelRfl
namespace Go.Proofs.Qxb6001516a
/- THE CELL 'sum', in the pinned program and in every row, IS THE sha256 OF THE DUMP (.gsa) THAT Qxb6001516aProg.lean LOADS. Nothing in Lean hashes anything: it is a label: what it is worth is what the hold of that sum in a sandbox is worth. -/
noncomputable def Try.pinned : Pinned := { name := "qxb6001516a", sum := "e43076d2563b67a0c3c9548000d57afcf2f737a3bbe7f97e5ad19bc68bf303a3", checked := Try.checked }
namespace Rows
def none {H : Type} : Left H := { results := [], args := [] }

/-- 'zzlaws_root_b1.FnReadLocalPartReadsBangPath': WHATEVER THE INPUT: true; the input reads as it did. -/
def fnReadLocalPartReadsBangPathSpec : ChangeSpec := { name := "fnReadLocalPartReadsBangPath", fn := fun _ => fun
  | [d1, d2, d3] => { results := [.lit (.bool true)], args := [d1, d2, d3] }
  | _ => none }
def fnReadLocalPartReadsBangPathRow : OpenClaim := { program := "qxb6001516a", sum := "e43076d2563b67a0c3c9548000d57afcf2f737a3bbe7f97e5ad19bc68bf303a3", func := "example.com/addrwright/addrwright/zzlaws_root_b1.FnReadLocalPartReadsBangPath", spec := "fnReadLocalPartReadsBangPath", inPlace := ["internal/bytealg.IndexByteString", "internal/bytealg.IndexString"], named := ["internal/bytealg.MaxLen"], apart := false }
def FnReadLocalPartReadsBangPathSaid : Prop := fnReadLocalPartReadsBangPathRow.holds Try.pinned (OpenSpec.ofChange fnReadLocalPartReadsBangPathSpec)

/-- ITS FALSE NEIGHBOUR: 'it returns false'. Refute it at one input. -/
def fnReadLocalPartReadsBangPathWrong : ChangeSpec := { name := "fnReadLocalPartReadsBangPath", fn := fun _ => fun
  | [d1, d2, d3] => { results := [.lit (.bool false)], args := [d1, d2, d3] }
  | _ => none }
def FnReadLocalPartReadsBangPathWrongFalsely : Prop := fnReadLocalPartReadsBangPathRow.holds Try.pinned (OpenSpec.ofChange fnReadLocalPartReadsBangPathWrong)

/-- 'zzlaws_root_b1.FnReadLocalPartReadsPercentHack': WHATEVER THE INPUT: true; the input reads as it did. -/
def fnReadLocalPartReadsPercentHackSpec : ChangeSpec := { name := "fnReadLocalPartReadsPercentHack", fn := fun _ => fun
  | [d1, d2, d3] => { results := [.lit (.bool true)], args := [d1, d2, d3] }
  | _ => none }
def fnReadLocalPartReadsPercentHackRow : OpenClaim := { program := "qxb6001516a", sum := "e43076d2563b67a0c3c9548000d57afcf2f737a3bbe7f97e5ad19bc68bf303a3", func := "example.com/addrwright/addrwright/zzlaws_root_b1.FnReadLocalPartReadsPercentHack", spec := "fnReadLocalPartReadsPercentHack", inPlace := ["internal/bytealg.IndexByteString", "internal/bytealg.IndexString"], named := ["internal/bytealg.MaxLen"], apart := false }
def FnReadLocalPartReadsPercentHackSaid : Prop := fnReadLocalPartReadsPercentHackRow.holds Try.pinned (OpenSpec.ofChange fnReadLocalPartReadsPercentHackSpec)

/-- ITS FALSE NEIGHBOUR: 'it returns false'. Refute it at one input. -/
def fnReadLocalPartReadsPercentHackWrong : ChangeSpec := { name := "fnReadLocalPartReadsPercentHack", fn := fun _ => fun
  | [d1, d2, d3] => { results := [.lit (.bool false)], args := [d1, d2, d3] }
  | _ => none }
def FnReadLocalPartReadsPercentHackWrongFalsely : Prop := fnReadLocalPartReadsPercentHackRow.holds Try.pinned (OpenSpec.ofChange fnReadLocalPartReadsPercentHackWrong)

/-- 'zzlaws_root_b1.FnReadLocalPartLeavesNoStep': WHATEVER THE INPUT: true; the input reads as it did. -/
def fnReadLocalPartLeavesNoStepSpec : ChangeSpec := { name := "fnReadLocalPartLeavesNoStep", fn := fun _ => fun
  | [d1, d2] => { results := [.lit (.bool true)], args := [d1, d2] }
  | _ => none }
def fnReadLocalPartLeavesNoStepRow : OpenClaim := { program := "qxb6001516a", sum := "e43076d2563b67a0c3c9548000d57afcf2f737a3bbe7f97e5ad19bc68bf303a3", func := "example.com/addrwright/addrwright/zzlaws_root_b1.FnReadLocalPartLeavesNoStep", spec := "fnReadLocalPartLeavesNoStep", inPlace := ["internal/bytealg.IndexByteString", "internal/bytealg.IndexString"], named := ["internal/bytealg.MaxLen"], apart := false }
def FnReadLocalPartLeavesNoStepSaid : Prop := fnReadLocalPartLeavesNoStepRow.holds Try.pinned (OpenSpec.ofChange fnReadLocalPartLeavesNoStepSpec)

/-- ITS FALSE NEIGHBOUR: 'it returns false'. Refute it at one input. -/
def fnReadLocalPartLeavesNoStepWrong : ChangeSpec := { name := "fnReadLocalPartLeavesNoStep", fn := fun _ => fun
  | [d1, d2] => { results := [.lit (.bool false)], args := [d1, d2] }
  | _ => none }
def FnReadLocalPartLeavesNoStepWrongFalsely : Prop := fnReadLocalPartLeavesNoStepRow.holds Try.pinned (OpenSpec.ofChange fnReadLocalPartLeavesNoStepWrong)

/-- 'zzlaws_root_b1.FnUnquoteWordsUndoesQuoting': WHATEVER THE INPUT: true; the input reads as it did. -/
def fnUnquoteWordsUndoesQuotingSpec : ChangeSpec := { name := "fnUnquoteWordsUndoesQuoting", fn := fun _ => fun
  | [d] => { results := [.lit (.bool true)], args := [d] }
  | _ => none }
def fnUnquoteWordsUndoesQuotingRow : OpenClaim := { program := "qxb6001516a", sum := "e43076d2563b67a0c3c9548000d57afcf2f737a3bbe7f97e5ad19bc68bf303a3", func := "example.com/addrwright/addrwright/zzlaws_root_b1.FnUnquoteWordsUndoesQuoting", spec := "fnUnquoteWordsUndoesQuoting", inPlace := ["internal/bytealg.IndexByteString", "internal/abi.NoEscape", "internal/bytealg.MakeNoZero"], apart := false }
def FnUnquoteWordsUndoesQuotingSaid : Prop := fnUnquoteWordsUndoesQuotingRow.holds Try.pinned (OpenSpec.ofChange fnUnquoteWordsUndoesQuotingSpec)

/-- ITS FALSE NEIGHBOUR: 'it returns false'. Refute it at one input. -/
def fnUnquoteWordsUndoesQuotingWrong : ChangeSpec := { name := "fnUnquoteWordsUndoesQuoting", fn := fun _ => fun
  | [d] => { results := [.lit (.bool false)], args := [d] }
  | _ => none }
def FnUnquoteWordsUndoesQuotingWrongFalsely : Prop := fnUnquoteWordsUndoesQuotingRow.holds Try.pinned (OpenSpec.ofChange fnUnquoteWordsUndoesQuotingWrong)

/-- 'zzlaws_root_b1.FnUnquoteWordsDropsQuotesWhereNoBackslash': WHATEVER THE INPUT: true; the input reads as it did. -/
def fnUnquoteWordsDropsQuotesWhereNoBackslashSpec : ChangeSpec := { name := "fnUnquoteWordsDropsQuotesWhereNoBackslash", fn := fun _ => fun
  | [d] => { results := [.lit (.bool true)], args := [d] }
  | _ => none }
def fnUnquoteWordsDropsQuotesWhereNoBackslashRow : OpenClaim := { program := "qxb6001516a", sum := "e43076d2563b67a0c3c9548000d57afcf2f737a3bbe7f97e5ad19bc68bf303a3", func := "example.com/addrwright/addrwright/zzlaws_root_b1.FnUnquoteWordsDropsQuotesWhereNoBackslash", spec := "fnUnquoteWordsDropsQuotesWhereNoBackslash", inPlace := ["internal/bytealg.IndexByteString", "internal/abi.NoEscape", "internal/bytealg.MakeNoZero"], apart := false }
def FnUnquoteWordsDropsQuotesWhereNoBackslashSaid : Prop := fnUnquoteWordsDropsQuotesWhereNoBackslashRow.holds Try.pinned (OpenSpec.ofChange fnUnquoteWordsDropsQuotesWhereNoBackslashSpec)

/-- ITS FALSE NEIGHBOUR: 'it returns false'. Refute it at one input. -/
def fnUnquoteWordsDropsQuotesWhereNoBackslashWrong : ChangeSpec := { name := "fnUnquoteWordsDropsQuotesWhereNoBackslash", fn := fun _ => fun
  | [d] => { results := [.lit (.bool false)], args := [d] }
  | _ => none }
def FnUnquoteWordsDropsQuotesWhereNoBackslashWrongFalsely : Prop := fnUnquoteWordsDropsQuotesWhereNoBackslashRow.holds Try.pinned (OpenSpec.ofChange fnUnquoteWordsDropsQuotesWhereNoBackslashWrong)

end Rows
end Go.Proofs.Qxb6001516a
