/-
  No cell of these rows narrows 'for every input' (looked for: loops, veiled, ifaces, maps, wideKeys, modest, calm, conditions, laid).
  DERIVED. THE GIVEN ROWS OF THIS SEAT. 6 by the template 'for every input the law returns true; each argument reads behind the call as it read before'; 0 by the template 'total and deterministic' (their statements: Qxb6619627aTotals.lean).
  GIVEN WITH THE SEED: the statements are not yours to turn. If you find one false, say at which input.
  Laid BY PROGRAM, IN A SANDBOX (cutbox-rows.mjs): the forced cells as the released guide's own fill.sh prints them over the translation 83a264762d7f9172… (all of the seat's roots in one cut). By AI agents, Wed Nov 11 2026. No macro, syntax, notation, axiom, sorry.
-/
import Derived.Test.Qxb6619627aChecked
import GoSem.Claim
import GoSem.ClaimJoined
import GoSem.ClaimMapViews
import Derived.JoinedTies
import Derived.KernelRfl
namespace Go.Proofs.Qxb6619627a
/- THE CELL 'sum', in the pinned program and in every row, IS THE sha256 OF THE DUMP (.gsa) THAT Qxb6619627aProg.lean LOADS. Nothing in Lean hashes anything: it is a label: what it is worth is what the hold of that sum in a sandbox is worth. -/
noncomputable def Try.pinned : Pinned := { name := "qxb6619627a", sum := "83a264762d7f9172a6589c96922a02df83a53cef268a3d3e0abf757a3b13e670", checked := Try.checked }
namespace Rows
def none {H : Type} : Left H := { results := [], args := [] }

/-- 'zzlaws_internal_arith_b1.FnMagnitudeComplementPair': WHATEVER THE INPUT: true; the input reads as it did. -/
def fnMagnitudeComplementPairSpec : ChangeSpec := { name := "fnMagnitudeComplementPair", fn := fun _ => fun
  | [d] => { results := [.lit (.bool true)], args := [d] }
  | _ => none }
def fnMagnitudeComplementPairRow : OpenClaim := { program := "qxb6619627a", sum := "83a264762d7f9172a6589c96922a02df83a53cef268a3d3e0abf757a3b13e670", func := "example.com/avdrag/avdrag/zzlaws_internal_arith_b1.FnMagnitudeComplementPair", spec := "fnMagnitudeComplementPair", apart := false }
def FnMagnitudeComplementPairSaid : Prop := fnMagnitudeComplementPairRow.holds Try.pinned (OpenSpec.ofChange fnMagnitudeComplementPairSpec)

/-- ITS FALSE NEIGHBOUR: 'it returns false'. Refute it at one input. -/
def fnMagnitudeComplementPairWrong : ChangeSpec := { name := "fnMagnitudeComplementPair", fn := fun _ => fun
  | [d] => { results := [.lit (.bool false)], args := [d] }
  | _ => none }
def FnMagnitudeComplementPairWrongFalsely : Prop := fnMagnitudeComplementPairRow.holds Try.pinned (OpenSpec.ofChange fnMagnitudeComplementPairWrong)

/-- 'zzlaws_internal_arith_b1.FnMagnitudeOfSum': WHATEVER THE INPUT: true; the input reads as it did. -/
def fnMagnitudeOfSumSpec : ChangeSpec := { name := "fnMagnitudeOfSum", fn := fun _ => fun
  | [d1, d2] => { results := [.lit (.bool true)], args := [d1, d2] }
  | _ => none }
def fnMagnitudeOfSumRow : OpenClaim := { program := "qxb6619627a", sum := "83a264762d7f9172a6589c96922a02df83a53cef268a3d3e0abf757a3b13e670", func := "example.com/avdrag/avdrag/zzlaws_internal_arith_b1.FnMagnitudeOfSum", spec := "fnMagnitudeOfSum", apart := false }
def FnMagnitudeOfSumSaid : Prop := fnMagnitudeOfSumRow.holds Try.pinned (OpenSpec.ofChange fnMagnitudeOfSumSpec)

/-- ITS FALSE NEIGHBOUR: 'it returns false'. Refute it at one input. -/
def fnMagnitudeOfSumWrong : ChangeSpec := { name := "fnMagnitudeOfSum", fn := fun _ => fun
  | [d1, d2] => { results := [.lit (.bool false)], args := [d1, d2] }
  | _ => none }
def FnMagnitudeOfSumWrongFalsely : Prop := fnMagnitudeOfSumRow.holds Try.pinned (OpenSpec.ofChange fnMagnitudeOfSumWrong)

/-- 'zzlaws_internal_arith_b1.FnDigitBoundsStepsAndSums': WHATEVER THE INPUT: true; the input reads as it did. -/
def fnDigitBoundsStepsAndSumsSpec : ChangeSpec := { name := "fnDigitBoundsStepsAndSums", fn := fun _ => fun
  | [d1, d2] => { results := [.lit (.bool true)], args := [d1, d2] }
  | _ => none }
def fnDigitBoundsStepsAndSumsRow : OpenClaim := { program := "qxb6619627a", sum := "83a264762d7f9172a6589c96922a02df83a53cef268a3d3e0abf757a3b13e670", func := "example.com/avdrag/avdrag/zzlaws_internal_arith_b1.FnDigitBoundsStepsAndSums", spec := "fnDigitBoundsStepsAndSums", apart := false }
def FnDigitBoundsStepsAndSumsSaid : Prop := fnDigitBoundsStepsAndSumsRow.holds Try.pinned (OpenSpec.ofChange fnDigitBoundsStepsAndSumsSpec)

/-- ITS FALSE NEIGHBOUR: 'it returns false'. Refute it at one input. -/
def fnDigitBoundsStepsAndSumsWrong : ChangeSpec := { name := "fnDigitBoundsStepsAndSums", fn := fun _ => fun
  | [d1, d2] => { results := [.lit (.bool false)], args := [d1, d2] }
  | _ => none }
def FnDigitBoundsStepsAndSumsWrongFalsely : Prop := fnDigitBoundsStepsAndSumsRow.holds Try.pinned (OpenSpec.ofChange fnDigitBoundsStepsAndSumsWrong)

/-- 'zzlaws_internal_arith_b1.FnSignByEndPoints': WHATEVER THE INPUT: true; the input reads as it did. -/
def fnSignByEndPointsSpec : ChangeSpec := { name := "fnSignByEndPoints", fn := fun _ => fun
  | [d1, d2] => { results := [.lit (.bool true)], args := [d1, d2] }
  | _ => none }
def fnSignByEndPointsRow : OpenClaim := { program := "qxb6619627a", sum := "83a264762d7f9172a6589c96922a02df83a53cef268a3d3e0abf757a3b13e670", func := "example.com/avdrag/avdrag/zzlaws_internal_arith_b1.FnSignByEndPoints", spec := "fnSignByEndPoints", apart := false }
def FnSignByEndPointsSaid : Prop := fnSignByEndPointsRow.holds Try.pinned (OpenSpec.ofChange fnSignByEndPointsSpec)

/-- ITS FALSE NEIGHBOUR: 'it returns false'. Refute it at one input. -/
def fnSignByEndPointsWrong : ChangeSpec := { name := "fnSignByEndPoints", fn := fun _ => fun
  | [d1, d2] => { results := [.lit (.bool false)], args := [d1, d2] }
  | _ => none }
def FnSignByEndPointsWrongFalsely : Prop := fnSignByEndPointsRow.holds Try.pinned (OpenSpec.ofChange fnSignByEndPointsWrong)

/-- 'zzlaws_internal_arith_b1.FnSignSplitAndNegate': WHATEVER THE INPUT: true; the input reads as it did. -/
def fnSignSplitAndNegateSpec : ChangeSpec := { name := "fnSignSplitAndNegate", fn := fun _ => fun
  | [d1, d2, d3] => { results := [.lit (.bool true)], args := [d1, d2, d3] }
  | _ => none }
def fnSignSplitAndNegateRow : OpenClaim := { program := "qxb6619627a", sum := "83a264762d7f9172a6589c96922a02df83a53cef268a3d3e0abf757a3b13e670", func := "example.com/avdrag/avdrag/zzlaws_internal_arith_b1.FnSignSplitAndNegate", spec := "fnSignSplitAndNegate", apart := false }
def FnSignSplitAndNegateSaid : Prop := fnSignSplitAndNegateRow.holds Try.pinned (OpenSpec.ofChange fnSignSplitAndNegateSpec)

/-- ITS FALSE NEIGHBOUR: 'it returns false'. Refute it at one input. -/
def fnSignSplitAndNegateWrong : ChangeSpec := { name := "fnSignSplitAndNegate", fn := fun _ => fun
  | [d1, d2, d3] => { results := [.lit (.bool false)], args := [d1, d2, d3] }
  | _ => none }
def FnSignSplitAndNegateWrongFalsely : Prop := fnSignSplitAndNegateRow.holds Try.pinned (OpenSpec.ofChange fnSignSplitAndNegateWrong)

/-- 'zzlaws_internal_arith_b1.FnDigitBoundsBracketPowersOfTwo': WHATEVER THE INPUT: true; the input reads as it did. -/
def fnDigitBoundsBracketPowersOfTwoSpec : ChangeSpec := { name := "fnDigitBoundsBracketPowersOfTwo", fn := fun _ => fun
  | [d] => { results := [.lit (.bool true)], args := [d] }
  | _ => none }
def fnDigitBoundsBracketPowersOfTwoRow : OpenClaim := { program := "qxb6619627a", sum := "83a264762d7f9172a6589c96922a02df83a53cef268a3d3e0abf757a3b13e670", func := "example.com/avdrag/avdrag/zzlaws_internal_arith_b1.FnDigitBoundsBracketPowersOfTwo", spec := "fnDigitBoundsBracketPowersOfTwo", apart := false }
def FnDigitBoundsBracketPowersOfTwoSaid : Prop := fnDigitBoundsBracketPowersOfTwoRow.holds Try.pinned (OpenSpec.ofChange fnDigitBoundsBracketPowersOfTwoSpec)

/-- ITS FALSE NEIGHBOUR: 'it returns false'. Refute it at one input. -/
def fnDigitBoundsBracketPowersOfTwoWrong : ChangeSpec := { name := "fnDigitBoundsBracketPowersOfTwo", fn := fun _ => fun
  | [d] => { results := [.lit (.bool false)], args := [d] }
  | _ => none }
def FnDigitBoundsBracketPowersOfTwoWrongFalsely : Prop := fnDigitBoundsBracketPowersOfTwoRow.holds Try.pinned (OpenSpec.ofChange fnDigitBoundsBracketPowersOfTwoWrong)

end Rows
end Go.Proofs.Qxb6619627a
