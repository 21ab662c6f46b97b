/-
  No cell of these rows narrows 'for every input' (looked for: loops, veiled, ifaces, maps, wideKeys, modest, calm, conditions, laid).
  DERIVED. THE GIVEN ROWS OF THIS SEAT. 3 by the template 'for every input the law returns true; each argument reads behind the call as it read before'; 0 by the template 'total and deterministic' (their statements: Qxb6603773aTotals.lean).
  GIVEN WITH THE SEED: the statements are not yours to turn. If you find one false, say at which input.
  Laid BY PROGRAM, IN A SANDBOX (cutbox-rows.mjs): the forced cells as the released guide's own fill.sh prints them over the translation a32edd74783fa371… (all of the seat's roots in one cut). By AI agents, Wed Nov 11 2026. No macro, syntax, notation, axiom, sorry.
-/
import Derived.Test.Qxb6603773aChecked
import GoSem.Claim
import GoSem.ClaimJoined
import GoSem.ClaimMapViews
import Derived.JoinedTies
import Derived.KernelRfl
namespace Go.Proofs.Qxb6603773a
/- THE CELL 'sum', in the pinned program and in every row, IS THE sha256 OF THE DUMP (.gsa) THAT Qxb6603773aProg.lean LOADS. Nothing in Lean hashes anything: it is a label: what it is worth is what the hold of that sum in a sandbox is worth. -/
noncomputable def Try.pinned : Pinned := { name := "qxb6603773a", sum := "a32edd74783fa37148e9894b1e16098342502842aa5c508a5583b56412129203", checked := Try.checked }
namespace Rows
def none {H : Type} : Left H := { results := [], args := [] }

/-- 'zzlaws_internal_policy_collective_b1.FnAddKeepsTheDiagonalNonNegativeAndAboveEachPart': WHATEVER THE INPUT: true; the input reads as it did. -/
def fnAddKeepsTheDiagonalNonNegativeAndAboveEachPartSpec : ChangeSpec := { name := "fnAddKeepsTheDiagonalNonNegativeAndAboveEachPart", fn := fun _ => fun
  | [d1, d2, d3, d4, d5] => { results := [.lit (.bool true)], args := [d1, d2, d3, d4, d5] }
  | _ => none }
def fnAddKeepsTheDiagonalNonNegativeAndAboveEachPartRow : OpenClaim := { program := "qxb6603773a", sum := "a32edd74783fa37148e9894b1e16098342502842aa5c508a5583b56412129203", func := "example.com/tidewright/tidewright/zzlaws_internal_policy_collective_b1.FnAddKeepsTheDiagonalNonNegativeAndAboveEachPart", spec := "fnAddKeepsTheDiagonalNonNegativeAndAboveEachPart", apart := false }
def FnAddKeepsTheDiagonalNonNegativeAndAboveEachPartSaid : Prop := fnAddKeepsTheDiagonalNonNegativeAndAboveEachPartRow.holds Try.pinned (OpenSpec.ofChange fnAddKeepsTheDiagonalNonNegativeAndAboveEachPartSpec)

/-- ITS FALSE NEIGHBOUR: 'it returns false'. Refute it at one input. -/
def fnAddKeepsTheDiagonalNonNegativeAndAboveEachPartWrong : ChangeSpec := { name := "fnAddKeepsTheDiagonalNonNegativeAndAboveEachPart", fn := fun _ => fun
  | [d1, d2, d3, d4, d5] => { results := [.lit (.bool false)], args := [d1, d2, d3, d4, d5] }
  | _ => none }
def FnAddKeepsTheDiagonalNonNegativeAndAboveEachPartWrongFalsely : Prop := fnAddKeepsTheDiagonalNonNegativeAndAboveEachPartRow.holds Try.pinned (OpenSpec.ofChange fnAddKeepsTheDiagonalNonNegativeAndAboveEachPartWrong)

/-- 'zzlaws_internal_policy_collective_b1.FnSolveOfADiagonalGramIsTheQuotient': WHATEVER THE INPUT: true; the input reads as it did. -/
def fnSolveOfADiagonalGramIsTheQuotientSpec : ChangeSpec := { name := "fnSolveOfADiagonalGramIsTheQuotient", fn := fun _ => fun
  | [d1, d2, d3] => { results := [.lit (.bool true)], args := [d1, d2, d3] }
  | _ => none }
def fnSolveOfADiagonalGramIsTheQuotientRow : OpenClaim := { program := "qxb6603773a", sum := "a32edd74783fa37148e9894b1e16098342502842aa5c508a5583b56412129203", func := "example.com/tidewright/tidewright/zzlaws_internal_policy_collective_b1.FnSolveOfADiagonalGramIsTheQuotient", spec := "fnSolveOfADiagonalGramIsTheQuotient", apart := false }
def FnSolveOfADiagonalGramIsTheQuotientSaid : Prop := fnSolveOfADiagonalGramIsTheQuotientRow.holds Try.pinned (OpenSpec.ofChange fnSolveOfADiagonalGramIsTheQuotientSpec)

/-- ITS FALSE NEIGHBOUR: 'it returns false'. Refute it at one input. -/
def fnSolveOfADiagonalGramIsTheQuotientWrong : ChangeSpec := { name := "fnSolveOfADiagonalGramIsTheQuotient", fn := fun _ => fun
  | [d1, d2, d3] => { results := [.lit (.bool false)], args := [d1, d2, d3] }
  | _ => none }
def FnSolveOfADiagonalGramIsTheQuotientWrongFalsely : Prop := fnSolveOfADiagonalGramIsTheQuotientRow.holds Try.pinned (OpenSpec.ofChange fnSolveOfADiagonalGramIsTheQuotientWrong)

/-- 'zzlaws_internal_policy_collective_b1.FnFitOfTheConstantAloneIsTheMean': WHATEVER THE INPUT: true; the input reads as it did. -/
def fnFitOfTheConstantAloneIsTheMeanSpec : ChangeSpec := { name := "fnFitOfTheConstantAloneIsTheMean", fn := fun _ => fun
  | [d] => { results := [.lit (.bool true)], args := [d] }
  | _ => none }
def fnFitOfTheConstantAloneIsTheMeanRow : OpenClaim := { program := "qxb6603773a", sum := "a32edd74783fa37148e9894b1e16098342502842aa5c508a5583b56412129203", func := "example.com/tidewright/tidewright/zzlaws_internal_policy_collective_b1.FnFitOfTheConstantAloneIsTheMean", spec := "fnFitOfTheConstantAloneIsTheMean", apart := false }
def FnFitOfTheConstantAloneIsTheMeanSaid : Prop := fnFitOfTheConstantAloneIsTheMeanRow.holds Try.pinned (OpenSpec.ofChange fnFitOfTheConstantAloneIsTheMeanSpec)

/-- ITS FALSE NEIGHBOUR: 'it returns false'. Refute it at one input. -/
def fnFitOfTheConstantAloneIsTheMeanWrong : ChangeSpec := { name := "fnFitOfTheConstantAloneIsTheMean", fn := fun _ => fun
  | [d] => { results := [.lit (.bool false)], args := [d] }
  | _ => none }
def FnFitOfTheConstantAloneIsTheMeanWrongFalsely : Prop := fnFitOfTheConstantAloneIsTheMeanRow.holds Try.pinned (OpenSpec.ofChange fnFitOfTheConstantAloneIsTheMeanWrong)

end Rows
end Go.Proofs.Qxb6603773a
