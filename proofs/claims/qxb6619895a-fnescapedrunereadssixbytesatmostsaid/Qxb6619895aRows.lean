/-
  No cell of these rows narrows 'for every input' (looked for: loops, veiled, ifaces, maps, wideKeys, modest, calm, conditions, laid).
  DERIVED. THE GIVEN ROWS OF THIS SEAT. 2 by the template 'for every input the law returns true; each argument reads behind the call as it read before'; 0 by the template 'total and deterministic' (their statements: Qxb6619895aTotals.lean).
  GIVEN WITH THE SEED: the statements are not yours to turn. If you find one false, say at which input.
  Laid BY PROGRAM, IN A SANDBOX (cutbox-rows.mjs): the forced cells as the released guide's own fill.sh prints them over the translation 93946bb622fc5760… (all of the seat's roots in one cut). By AI agents, Wed Nov 11 2026. No macro, syntax, notation, axiom, sorry.
-/
import Derived.Test.Qxb6619895aChecked
import GoSem.Claim
import GoSem.ClaimJoined
import GoSem.ClaimMapViews
import Derived.JoinedTies
import Derived.KernelRfl
namespace Go.Proofs.Qxb6619895a
/- THE CELL 'sum', in the pinned program and in every row, IS THE sha256 OF THE DUMP (.gsa) THAT Qxb6619895aProg.lean LOADS. Nothing in Lean hashes anything: it is a label: what it is worth is what the hold of that sum in a sandbox is worth. -/
noncomputable def Try.pinned : Pinned := { name := "qxb6619895a", sum := "93946bb622fc5760646d49d4b1e3bf197c7689f48f0a63b4b0aad95b1bca917a", checked := Try.checked }
namespace Rows
def none {H : Type} : Left H := { results := [], args := [] }

/-- 'zzlaws_internal_canonjson_b1.FnEscapedRuneMatchesDigitSearch': WHATEVER THE INPUT: true; the input reads as it did. -/
def fnEscapedRuneMatchesDigitSearchSpec : ChangeSpec := { name := "fnEscapedRuneMatchesDigitSearch", fn := fun _ => fun
  | [d] => { results := [.lit (.bool true)], args := [d] }
  | _ => none }
def fnEscapedRuneMatchesDigitSearchRow : OpenClaim := { program := "qxb6619895a", sum := "93946bb622fc5760646d49d4b1e3bf197c7689f48f0a63b4b0aad95b1bca917a", func := "example.com/cordwire/cordwire/zzlaws_internal_canonjson_b1.FnEscapedRuneMatchesDigitSearch", spec := "fnEscapedRuneMatchesDigitSearch", apart := false }
def FnEscapedRuneMatchesDigitSearchSaid : Prop := fnEscapedRuneMatchesDigitSearchRow.holds Try.pinned (OpenSpec.ofChange fnEscapedRuneMatchesDigitSearchSpec)

/-- ITS FALSE NEIGHBOUR: 'it returns false'. Refute it at one input. -/
def fnEscapedRuneMatchesDigitSearchWrong : ChangeSpec := { name := "fnEscapedRuneMatchesDigitSearch", fn := fun _ => fun
  | [d] => { results := [.lit (.bool false)], args := [d] }
  | _ => none }
def FnEscapedRuneMatchesDigitSearchWrongFalsely : Prop := fnEscapedRuneMatchesDigitSearchRow.holds Try.pinned (OpenSpec.ofChange fnEscapedRuneMatchesDigitSearchWrong)

/-- 'zzlaws_internal_canonjson_b1.FnEscapedRuneReadsSixBytesAtMost': WHATEVER THE INPUT: true; the input reads as it did. -/
def fnEscapedRuneReadsSixBytesAtMostSpec : ChangeSpec := { name := "fnEscapedRuneReadsSixBytesAtMost", fn := fun _ => fun
  | [d1, d2] => { results := [.lit (.bool true)], args := [d1, d2] }
  | _ => none }
def fnEscapedRuneReadsSixBytesAtMostRow : OpenClaim := { program := "qxb6619895a", sum := "93946bb622fc5760646d49d4b1e3bf197c7689f48f0a63b4b0aad95b1bca917a", func := "example.com/cordwire/cordwire/zzlaws_internal_canonjson_b1.FnEscapedRuneReadsSixBytesAtMost", spec := "fnEscapedRuneReadsSixBytesAtMost", apart := false }
def FnEscapedRuneReadsSixBytesAtMostSaid : Prop := fnEscapedRuneReadsSixBytesAtMostRow.holds Try.pinned (OpenSpec.ofChange fnEscapedRuneReadsSixBytesAtMostSpec)

/-- ITS FALSE NEIGHBOUR: 'it returns false'. Refute it at one input. -/
def fnEscapedRuneReadsSixBytesAtMostWrong : ChangeSpec := { name := "fnEscapedRuneReadsSixBytesAtMost", fn := fun _ => fun
  | [d1, d2] => { results := [.lit (.bool false)], args := [d1, d2] }
  | _ => none }
def FnEscapedRuneReadsSixBytesAtMostWrongFalsely : Prop := fnEscapedRuneReadsSixBytesAtMostRow.holds Try.pinned (OpenSpec.ofChange fnEscapedRuneReadsSixBytesAtMostWrong)

end Rows
end Go.Proofs.Qxb6619895a
