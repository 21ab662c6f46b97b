/-
  No cell of these rows narrows 'for every input' (looked for: loops, veiled, ifaces, maps, wideKeys, modest, calm, conditions, laid).
  DERIVED. THE GIVEN ROWS OF THIS SEAT. 6 by the template 'for every input the law returns true; each argument reads behind the call as it read before'; 0 by the template 'total and deterministic' (their statements: Qxb6003345aTotals.lean).
  GIVEN WITH THE SEED: the statements are not yours to turn. If you find one false, say at which input.
  Laid BY PROGRAM, IN A SANDBOX (cutbox-rows.mjs): the forced cells as the released guide's own fill.sh prints them over the translation 7e43686caf713046… (all of the seat's roots in one cut). By AI agents, Wed Nov 11 2026. No macro, syntax, notation, axiom, sorry.
-/
import Derived.Test.Qxb6003345aChecked
import GoSem.Claim
import GoSem.ClaimJoined
import GoSem.ClaimMapViews
import Derived.JoinedTies
import Derived.KernelRfl
namespace Go.Proofs.Qxb6003345a
/- THE CELL 'sum', in the pinned program and in every row, IS THE sha256 OF THE DUMP (.gsa) THAT Qxb6003345aProg.lean LOADS. Nothing in Lean hashes anything: it is a label: what it is worth is what the hold of that sum in a sandbox is worth. -/
noncomputable def Try.pinned : Pinned := { name := "qxb6003345a", sum := "7e43686caf71304655795a5f69ed71e3ecd9144fa154627b457c323fbeda136b", checked := Try.checked }
namespace Rows
def none {H : Type} : Left H := { results := [], args := [] }

/-- 'zzlaws_internal_state_g2.FnAppendersWriteIndentedArrayThatNestsAsWritten': WHATEVER THE INPUT: true; the input reads as it did. -/
def fnAppendersWriteIndentedArrayThatNestsAsWrittenSpec : ChangeSpec := { name := "fnAppendersWriteIndentedArrayThatNestsAsWritten", fn := fun _ => fun
  | [d1, d2, d3] => { results := [.lit (.bool true)], args := [d1, d2, d3] }
  | _ => none }
def fnAppendersWriteIndentedArrayThatNestsAsWrittenRow : OpenClaim := { program := "qxb6003345a", sum := "7e43686caf71304655795a5f69ed71e3ecd9144fa154627b457c323fbeda136b", func := "example.com/cairn/cairn/zzlaws_internal_state_g2.FnAppendersWriteIndentedArrayThatNestsAsWritten", spec := "fnAppendersWriteIndentedArrayThatNestsAsWritten", apart := false }
def FnAppendersWriteIndentedArrayThatNestsAsWrittenSaid : Prop := fnAppendersWriteIndentedArrayThatNestsAsWrittenRow.holds Try.pinned (OpenSpec.ofChange fnAppendersWriteIndentedArrayThatNestsAsWrittenSpec)

/-- ITS FALSE NEIGHBOUR: 'it returns false'. Refute it at one input. -/
def fnAppendersWriteIndentedArrayThatNestsAsWrittenWrong : ChangeSpec := { name := "fnAppendersWriteIndentedArrayThatNestsAsWritten", fn := fun _ => fun
  | [d1, d2, d3] => { results := [.lit (.bool false)], args := [d1, d2, d3] }
  | _ => none }
def FnAppendersWriteIndentedArrayThatNestsAsWrittenWrongFalsely : Prop := fnAppendersWriteIndentedArrayThatNestsAsWrittenRow.holds Try.pinned (OpenSpec.ofChange fnAppendersWriteIndentedArrayThatNestsAsWrittenWrong)

/-- 'zzlaws_internal_state_g2.FnDigitsReadsWrittenNumber': WHATEVER THE INPUT: true; the input reads as it did. -/
def fnDigitsReadsWrittenNumberSpec : ChangeSpec := { name := "fnDigitsReadsWrittenNumber", fn := fun _ => fun
  | [d1, d2, d3, d4] => { results := [.lit (.bool true)], args := [d1, d2, d3, d4] }
  | _ => none }
def fnDigitsReadsWrittenNumberRow : OpenClaim := { program := "qxb6003345a", sum := "7e43686caf71304655795a5f69ed71e3ecd9144fa154627b457c323fbeda136b", func := "example.com/cairn/cairn/zzlaws_internal_state_g2.FnDigitsReadsWrittenNumber", spec := "fnDigitsReadsWrittenNumber", apart := false }
def FnDigitsReadsWrittenNumberSaid : Prop := fnDigitsReadsWrittenNumberRow.holds Try.pinned (OpenSpec.ofChange fnDigitsReadsWrittenNumberSpec)

/-- ITS FALSE NEIGHBOUR: 'it returns false'. Refute it at one input. -/
def fnDigitsReadsWrittenNumberWrong : ChangeSpec := { name := "fnDigitsReadsWrittenNumber", fn := fun _ => fun
  | [d1, d2, d3, d4] => { results := [.lit (.bool false)], args := [d1, d2, d3, d4] }
  | _ => none }
def FnDigitsReadsWrittenNumberWrongFalsely : Prop := fnDigitsReadsWrittenNumberRow.holds Try.pinned (OpenSpec.ofChange fnDigitsReadsWrittenNumberWrong)

/-- 'zzlaws_internal_state_g2.FnWordReadsWrittenLiteral': WHATEVER THE INPUT: true; the input reads as it did. -/
def fnWordReadsWrittenLiteralSpec : ChangeSpec := { name := "fnWordReadsWrittenLiteral", fn := fun _ => fun
  | [d1, d2, d3, d4] => { results := [.lit (.bool true)], args := [d1, d2, d3, d4] }
  | _ => none }
def fnWordReadsWrittenLiteralRow : OpenClaim := { program := "qxb6003345a", sum := "7e43686caf71304655795a5f69ed71e3ecd9144fa154627b457c323fbeda136b", func := "example.com/cairn/cairn/zzlaws_internal_state_g2.FnWordReadsWrittenLiteral", spec := "fnWordReadsWrittenLiteral", apart := false }
def FnWordReadsWrittenLiteralSaid : Prop := fnWordReadsWrittenLiteralRow.holds Try.pinned (OpenSpec.ofChange fnWordReadsWrittenLiteralSpec)

/-- ITS FALSE NEIGHBOUR: 'it returns false'. Refute it at one input. -/
def fnWordReadsWrittenLiteralWrong : ChangeSpec := { name := "fnWordReadsWrittenLiteral", fn := fun _ => fun
  | [d1, d2, d3, d4] => { results := [.lit (.bool false)], args := [d1, d2, d3, d4] }
  | _ => none }
def FnWordReadsWrittenLiteralWrongFalsely : Prop := fnWordReadsWrittenLiteralRow.holds Try.pinned (OpenSpec.ofChange fnWordReadsWrittenLiteralWrong)

/-- 'zzlaws_internal_state_g2.FnNextSkipsWhiteSpaceToToken': WHATEVER THE INPUT: true; the input reads as it did. -/
def fnNextSkipsWhiteSpaceToTokenSpec : ChangeSpec := { name := "fnNextSkipsWhiteSpaceToToken", fn := fun _ => fun
  | [d1, d2, d3, d4, d5] => { results := [.lit (.bool true)], args := [d1, d2, d3, d4, d5] }
  | _ => none }
def fnNextSkipsWhiteSpaceToTokenRow : OpenClaim := { program := "qxb6003345a", sum := "7e43686caf71304655795a5f69ed71e3ecd9144fa154627b457c323fbeda136b", func := "example.com/cairn/cairn/zzlaws_internal_state_g2.FnNextSkipsWhiteSpaceToToken", spec := "fnNextSkipsWhiteSpaceToToken", apart := false }
def FnNextSkipsWhiteSpaceToTokenSaid : Prop := fnNextSkipsWhiteSpaceToTokenRow.holds Try.pinned (OpenSpec.ofChange fnNextSkipsWhiteSpaceToTokenSpec)

/-- ITS FALSE NEIGHBOUR: 'it returns false'. Refute it at one input. -/
def fnNextSkipsWhiteSpaceToTokenWrong : ChangeSpec := { name := "fnNextSkipsWhiteSpaceToToken", fn := fun _ => fun
  | [d1, d2, d3, d4, d5] => { results := [.lit (.bool false)], args := [d1, d2, d3, d4, d5] }
  | _ => none }
def FnNextSkipsWhiteSpaceToTokenWrongFalsely : Prop := fnNextSkipsWhiteSpaceToTokenRow.holds Try.pinned (OpenSpec.ofChange fnNextSkipsWhiteSpaceToTokenWrong)

/-- 'zzlaws_internal_state_g2.FnCountsTallyEachStatus': WHATEVER THE INPUT: true; the input reads as it did. -/
def fnCountsTallyEachStatusSpec : ChangeSpec := { name := "fnCountsTallyEachStatus", fn := fun _ => fun
  | [d] => { results := [.lit (.bool true)], args := [d] }
  | _ => none }
def fnCountsTallyEachStatusRow : OpenClaim := { program := "qxb6003345a", sum := "7e43686caf71304655795a5f69ed71e3ecd9144fa154627b457c323fbeda136b", func := "example.com/cairn/cairn/zzlaws_internal_state_g2.FnCountsTallyEachStatus", spec := "fnCountsTallyEachStatus", apart := false }
def FnCountsTallyEachStatusSaid : Prop := fnCountsTallyEachStatusRow.holds Try.pinned (OpenSpec.ofChange fnCountsTallyEachStatusSpec)

/-- ITS FALSE NEIGHBOUR: 'it returns false'. Refute it at one input. -/
def fnCountsTallyEachStatusWrong : ChangeSpec := { name := "fnCountsTallyEachStatus", fn := fun _ => fun
  | [d] => { results := [.lit (.bool false)], args := [d] }
  | _ => none }
def FnCountsTallyEachStatusWrongFalsely : Prop := fnCountsTallyEachStatusRow.holds Try.pinned (OpenSpec.ofChange fnCountsTallyEachStatusWrong)

/-- 'zzlaws_internal_state_g2.FnWaitOnAllIsDoneExactlyWhenCountsSayAllDone': WHATEVER THE INPUT: true; the input reads as it did. -/
def fnWaitOnAllIsDoneExactlyWhenCountsSayAllDoneSpec : ChangeSpec := { name := "fnWaitOnAllIsDoneExactlyWhenCountsSayAllDone", fn := fun _ => fun
  | [d1, d2] => { results := [.lit (.bool true)], args := [d1, d2] }
  | _ => none }
def fnWaitOnAllIsDoneExactlyWhenCountsSayAllDoneRow : OpenClaim := { program := "qxb6003345a", sum := "7e43686caf71304655795a5f69ed71e3ecd9144fa154627b457c323fbeda136b", func := "example.com/cairn/cairn/zzlaws_internal_state_g2.FnWaitOnAllIsDoneExactlyWhenCountsSayAllDone", spec := "fnWaitOnAllIsDoneExactlyWhenCountsSayAllDone", apart := false }
def FnWaitOnAllIsDoneExactlyWhenCountsSayAllDoneSaid : Prop := fnWaitOnAllIsDoneExactlyWhenCountsSayAllDoneRow.holds Try.pinned (OpenSpec.ofChange fnWaitOnAllIsDoneExactlyWhenCountsSayAllDoneSpec)

/-- ITS FALSE NEIGHBOUR: 'it returns false'. Refute it at one input. -/
def fnWaitOnAllIsDoneExactlyWhenCountsSayAllDoneWrong : ChangeSpec := { name := "fnWaitOnAllIsDoneExactlyWhenCountsSayAllDone", fn := fun _ => fun
  | [d1, d2] => { results := [.lit (.bool false)], args := [d1, d2] }
  | _ => none }
def FnWaitOnAllIsDoneExactlyWhenCountsSayAllDoneWrongFalsely : Prop := fnWaitOnAllIsDoneExactlyWhenCountsSayAllDoneRow.holds Try.pinned (OpenSpec.ofChange fnWaitOnAllIsDoneExactlyWhenCountsSayAllDoneWrong)

end Rows
end Go.Proofs.Qxb6003345a
