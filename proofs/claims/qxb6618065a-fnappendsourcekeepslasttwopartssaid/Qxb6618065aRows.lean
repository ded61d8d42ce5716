/-
  No cell of these rows narrows 'for every input' (looked for: loops, veiled, ifaces, maps, wideKeys, modest, calm, conditions, laid).
  DERIVED. THE GIVEN ROWS OF THIS SEAT. 3 by the template 'for every input the law returns true; each argument reads behind the call as it read before'; 0 by the template 'total and deterministic' (their statements: Qxb6618065aTotals.lean).
  GIVEN WITH THE SEED: the statements are not yours to turn. If you find one false, say at which input.
  Laid BY PROGRAM, IN A SANDBOX (cutbox-rows.mjs): the forced cells as the released guide's own fill.sh prints them over the translation 961975b40828262e… (all of the seat's roots in one cut). By AI agents, Wed Nov 11 2026. No macro, syntax, notation, axiom, sorry.
-/
import Derived.Test.Qxb6618065aChecked
import GoSem.Claim
import GoSem.ClaimJoined
import GoSem.ClaimMapViews
import Derived.JoinedTies
import Derived.KernelRfl
namespace Go.Proofs.Qxb6618065a
/- THE CELL 'sum', in the pinned program and in every row, IS THE sha256 OF THE DUMP (.gsa) THAT Qxb6618065aProg.lean LOADS. Nothing in Lean hashes anything: it is a label: what it is worth is what the hold of that sum in a sandbox is worth. -/
noncomputable def Try.pinned : Pinned := { name := "qxb6618065a", sum := "961975b40828262efed017620b897f750b747f41784ade525970775e6eef07bd", checked := Try.checked }
namespace Rows
def none {H : Type} : Left H := { results := [], args := [] }

/-- 'zzlaws_root_b1.FnAppendDigitsSplitAnywhere': WHATEVER THE INPUT: true; the input reads as it did. -/
def fnAppendDigitsSplitAnywhereSpec : ChangeSpec := { name := "fnAppendDigitsSplitAnywhere", fn := fun _ => fun
  | [d1, d2, d3, d4] => { results := [.lit (.bool true)], args := [d1, d2, d3, d4] }
  | _ => none }
def fnAppendDigitsSplitAnywhereRow : OpenClaim := { program := "qxb6618065a", sum := "961975b40828262efed017620b897f750b747f41784ade525970775e6eef07bd", func := "example.com/ketju/ketju/zzlaws_root_b1.FnAppendDigitsSplitAnywhere", spec := "fnAppendDigitsSplitAnywhere", apart := false }
def FnAppendDigitsSplitAnywhereSaid : Prop := fnAppendDigitsSplitAnywhereRow.holds Try.pinned (OpenSpec.ofChange fnAppendDigitsSplitAnywhereSpec)

/-- ITS FALSE NEIGHBOUR: 'it returns false'. Refute it at one input. -/
def fnAppendDigitsSplitAnywhereWrong : ChangeSpec := { name := "fnAppendDigitsSplitAnywhere", fn := fun _ => fun
  | [d1, d2, d3, d4] => { results := [.lit (.bool false)], args := [d1, d2, d3, d4] }
  | _ => none }
def FnAppendDigitsSplitAnywhereWrongFalsely : Prop := fnAppendDigitsSplitAnywhereRow.holds Try.pinned (OpenSpec.ofChange fnAppendDigitsSplitAnywhereWrong)

/-- 'zzlaws_root_b1.FnLowerHexDigitReadsAppendDigits': WHATEVER THE INPUT: true; the input reads as it did. -/
def fnLowerHexDigitReadsAppendDigitsSpec : ChangeSpec := { name := "fnLowerHexDigitReadsAppendDigits", fn := fun _ => fun
  | [d1, d2, d3] => { results := [.lit (.bool true)], args := [d1, d2, d3] }
  | _ => none }
def fnLowerHexDigitReadsAppendDigitsRow : OpenClaim := { program := "qxb6618065a", sum := "961975b40828262efed017620b897f750b747f41784ade525970775e6eef07bd", func := "example.com/ketju/ketju/zzlaws_root_b1.FnLowerHexDigitReadsAppendDigits", spec := "fnLowerHexDigitReadsAppendDigits", apart := false }
def FnLowerHexDigitReadsAppendDigitsSaid : Prop := fnLowerHexDigitReadsAppendDigitsRow.holds Try.pinned (OpenSpec.ofChange fnLowerHexDigitReadsAppendDigitsSpec)

/-- ITS FALSE NEIGHBOUR: 'it returns false'. Refute it at one input. -/
def fnLowerHexDigitReadsAppendDigitsWrong : ChangeSpec := { name := "fnLowerHexDigitReadsAppendDigits", fn := fun _ => fun
  | [d1, d2, d3] => { results := [.lit (.bool false)], args := [d1, d2, d3] }
  | _ => none }
def FnLowerHexDigitReadsAppendDigitsWrongFalsely : Prop := fnLowerHexDigitReadsAppendDigitsRow.holds Try.pinned (OpenSpec.ofChange fnLowerHexDigitReadsAppendDigitsWrong)

/-- 'zzlaws_root_b1.FnAppendSourceKeepsLastTwoParts': WHATEVER THE INPUT: true; the input reads as it did. -/
def fnAppendSourceKeepsLastTwoPartsSpec : ChangeSpec := { name := "fnAppendSourceKeepsLastTwoParts", fn := fun _ => fun
  | [d1, d2] => { results := [.lit (.bool true)], args := [d1, d2] }
  | _ => none }
def fnAppendSourceKeepsLastTwoPartsRow : OpenClaim := { program := "qxb6618065a", sum := "961975b40828262efed017620b897f750b747f41784ade525970775e6eef07bd", func := "example.com/ketju/ketju/zzlaws_root_b1.FnAppendSourceKeepsLastTwoParts", spec := "fnAppendSourceKeepsLastTwoParts", apart := false }
def FnAppendSourceKeepsLastTwoPartsSaid : Prop := fnAppendSourceKeepsLastTwoPartsRow.holds Try.pinned (OpenSpec.ofChange fnAppendSourceKeepsLastTwoPartsSpec)

/-- ITS FALSE NEIGHBOUR: 'it returns false'. Refute it at one input. -/
def fnAppendSourceKeepsLastTwoPartsWrong : ChangeSpec := { name := "fnAppendSourceKeepsLastTwoParts", fn := fun _ => fun
  | [d1, d2] => { results := [.lit (.bool false)], args := [d1, d2] }
  | _ => none }
def FnAppendSourceKeepsLastTwoPartsWrongFalsely : Prop := fnAppendSourceKeepsLastTwoPartsRow.holds Try.pinned (OpenSpec.ofChange fnAppendSourceKeepsLastTwoPartsWrong)

end Rows
end Go.Proofs.Qxb6618065a
