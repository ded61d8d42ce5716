/-
  No cell of these rows narrows 'for every input' (looked for: loops, veiled, ifaces, maps, wideKeys, modest, calm, conditions, laid).
  DERIVED. THE GIVEN ROWS OF THIS SEAT. 3 by the template 'for every input the law returns true; each argument reads behind the call as it read before'; 0 by the template 'total and deterministic' (their statements: Qxb6619152aTotals.lean).
  GIVEN WITH THE SEED: the statements are not yours to turn. If you find one false, say at which input.
  Laid BY PROGRAM, IN A SANDBOX (cutbox-rows.mjs): the forced cells as the released guide's own fill.sh prints them over the translation 685dd3361d2fe3fb… (all of the seat's roots in one cut). By AI agents, Wed Nov 11 2026. No macro, syntax, notation, axiom, sorry.
-/
import Derived.Test.Qxb6619152aChecked
import GoSem.Claim
import GoSem.ClaimJoined
import GoSem.ClaimMapViews
import Derived.JoinedTies
import Derived.KernelRfl
namespace Go.Proofs.Qxb6619152a
/- THE CELL 'sum', in the pinned program and in every row, IS THE sha256 OF THE DUMP (.gsa) THAT Qxb6619152aProg.lean LOADS. Nothing in Lean hashes anything: it is a label: what it is worth is what the hold of that sum in a sandbox is worth. -/
noncomputable def Try.pinned : Pinned := { name := "qxb6619152a", sum := "685dd3361d2fe3fbc510fbf1b67c88c42d3bcc6c10132f26f4bbae99c6e11e70", checked := Try.checked }
namespace Rows
def none {H : Type} : Left H := { results := [], args := [] }

/-- 'zzlaws_txn_b1.FnAnswerBytesAddUpOverAnyCut': WHATEVER THE INPUT: true; the input reads as it did. -/
def fnAnswerBytesAddUpOverAnyCutSpec : ChangeSpec := { name := "fnAnswerBytesAddUpOverAnyCut", fn := fun _ => fun
  | [d1, d2, d3, d4, d5, d6, d7, d8] => { results := [.lit (.bool true)], args := [d1, d2, d3, d4, d5, d6, d7, d8] }
  | _ => none }
def fnAnswerBytesAddUpOverAnyCutRow : OpenClaim := { program := "qxb6619152a", sum := "685dd3361d2fe3fbc510fbf1b67c88c42d3bcc6c10132f26f4bbae99c6e11e70", func := "example.com/aftercheck/aftercheck/zzlaws_txn_b1.FnAnswerBytesAddUpOverAnyCut", spec := "fnAnswerBytesAddUpOverAnyCut", plainKeys := false, apart := false }
def FnAnswerBytesAddUpOverAnyCutSaid : Prop := fnAnswerBytesAddUpOverAnyCutRow.holds Try.pinned (OpenSpec.ofChange fnAnswerBytesAddUpOverAnyCutSpec)

/-- ITS FALSE NEIGHBOUR: 'it returns false'. Refute it at one input. -/
def fnAnswerBytesAddUpOverAnyCutWrong : ChangeSpec := { name := "fnAnswerBytesAddUpOverAnyCut", fn := fun _ => fun
  | [d1, d2, d3, d4, d5, d6, d7, d8] => { results := [.lit (.bool false)], args := [d1, d2, d3, d4, d5, d6, d7, d8] }
  | _ => none }
def FnAnswerBytesAddUpOverAnyCutWrongFalsely : Prop := fnAnswerBytesAddUpOverAnyCutRow.holds Try.pinned (OpenSpec.ofChange fnAnswerBytesAddUpOverAnyCutWrong)

/-- 'zzlaws_txn_b1.FnToldOverlapsSplitsAtAnyCut': WHATEVER THE INPUT: true; the input reads as it did. -/
def fnToldOverlapsSplitsAtAnyCutSpec : ChangeSpec := { name := "fnToldOverlapsSplitsAtAnyCut", fn := fun _ => fun
  | [d1, d2] => { results := [.lit (.bool true)], args := [d1, d2] }
  | _ => none }
def fnToldOverlapsSplitsAtAnyCutRow : OpenClaim := { program := "qxb6619152a", sum := "685dd3361d2fe3fbc510fbf1b67c88c42d3bcc6c10132f26f4bbae99c6e11e70", func := "example.com/aftercheck/aftercheck/zzlaws_txn_b1.FnToldOverlapsSplitsAtAnyCut", spec := "fnToldOverlapsSplitsAtAnyCut", plainKeys := false, apart := false }
def FnToldOverlapsSplitsAtAnyCutSaid : Prop := fnToldOverlapsSplitsAtAnyCutRow.holds Try.pinned (OpenSpec.ofChange fnToldOverlapsSplitsAtAnyCutSpec)

/-- ITS FALSE NEIGHBOUR: 'it returns false'. Refute it at one input. -/
def fnToldOverlapsSplitsAtAnyCutWrong : ChangeSpec := { name := "fnToldOverlapsSplitsAtAnyCut", fn := fun _ => fun
  | [d1, d2] => { results := [.lit (.bool false)], args := [d1, d2] }
  | _ => none }
def FnToldOverlapsSplitsAtAnyCutWrongFalsely : Prop := fnToldOverlapsSplitsAtAnyCutRow.holds Try.pinned (OpenSpec.ofChange fnToldOverlapsSplitsAtAnyCutWrong)

/-- 'zzlaws_txn_b1.FnAnswersAddFromEmptyKeepsEveryAnswer': WHATEVER THE INPUT: true; the input reads as it did. -/
def fnAnswersAddFromEmptyKeepsEveryAnswerSpec : ChangeSpec := { name := "fnAnswersAddFromEmptyKeepsEveryAnswer", fn := fun _ => fun
  | [d] => { results := [.lit (.bool true)], args := [d] }
  | _ => none }
def fnAnswersAddFromEmptyKeepsEveryAnswerRow : OpenClaim := { program := "qxb6619152a", sum := "685dd3361d2fe3fbc510fbf1b67c88c42d3bcc6c10132f26f4bbae99c6e11e70", func := "example.com/aftercheck/aftercheck/zzlaws_txn_b1.FnAnswersAddFromEmptyKeepsEveryAnswer", spec := "fnAnswersAddFromEmptyKeepsEveryAnswer", plainKeys := false, apart := false }
def FnAnswersAddFromEmptyKeepsEveryAnswerSaid : Prop := fnAnswersAddFromEmptyKeepsEveryAnswerRow.holds Try.pinned (OpenSpec.ofChange fnAnswersAddFromEmptyKeepsEveryAnswerSpec)

/-- ITS FALSE NEIGHBOUR: 'it returns false'. Refute it at one input. -/
def fnAnswersAddFromEmptyKeepsEveryAnswerWrong : ChangeSpec := { name := "fnAnswersAddFromEmptyKeepsEveryAnswer", fn := fun _ => fun
  | [d] => { results := [.lit (.bool false)], args := [d] }
  | _ => none }
def FnAnswersAddFromEmptyKeepsEveryAnswerWrongFalsely : Prop := fnAnswersAddFromEmptyKeepsEveryAnswerRow.holds Try.pinned (OpenSpec.ofChange fnAnswersAddFromEmptyKeepsEveryAnswerWrong)

end Rows
end Go.Proofs.Qxb6619152a
