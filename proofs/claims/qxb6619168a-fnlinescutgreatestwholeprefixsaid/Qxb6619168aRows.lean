/-
  No cell of these rows narrows 'for every input' (looked for: loops, veiled, ifaces, maps, wideKeys, modest, calm, conditions, laid).
  DERIVED. THE GIVEN ROWS OF THIS SEAT. 5 by the template 'for every input the law returns true; each argument reads behind the call as it read before'; 0 by the template 'total and deterministic' (their statements: Qxb6619168aTotals.lean).
  GIVEN WITH THE SEED: the statements are not yours to turn. If you find one false, say at which input.
  Laid BY PROGRAM, IN A SANDBOX (cutbox-rows.mjs): the forced cells as the released guide's own fill.sh prints them over the translation cec44cc0f2f097b5… (all of the seat's roots in one cut). By AI agents, Wed Nov 11 2026. No macro, syntax, notation, axiom, sorry.
-/
import Derived.Test.Qxb6619168aChecked
import GoSem.Claim
import GoSem.ClaimJoined
import GoSem.ClaimMapViews
import Derived.JoinedTies
import Derived.KernelRfl
namespace Go.Proofs.Qxb6619168a
/- THE CELL 'sum', in the pinned program and in every row, IS THE sha256 OF THE DUMP (.gsa) THAT Qxb6619168aProg.lean LOADS. Nothing in Lean hashes anything: it is a label: what it is worth is what the hold of that sum in a sandbox is worth. -/
noncomputable def Try.pinned : Pinned := { name := "qxb6619168a", sum := "cec44cc0f2f097b57cfb3bae71977a90d7670c5017a3b785a207ade584d4df29", checked := Try.checked }
namespace Rows
def none {H : Type} : Left H := { results := [], args := [] }

/-- 'zzlaws_internal_stream_b1.FnConsumeTwiceIsOnceAtSum': WHATEVER THE INPUT: true; the input reads as it did. -/
def fnConsumeTwiceIsOnceAtSumSpec : ChangeSpec := { name := "fnConsumeTwiceIsOnceAtSum", fn := fun _ => fun
  | [d1, d2, d3] => { results := [.lit (.bool true)], args := [d1, d2, d3] }
  | _ => none }
def fnConsumeTwiceIsOnceAtSumRow : OpenClaim := { program := "qxb6619168a", sum := "cec44cc0f2f097b57cfb3bae71977a90d7670c5017a3b785a207ade584d4df29", func := "nybble.example/nybble/zzlaws_internal_stream_b1.FnConsumeTwiceIsOnceAtSum", spec := "fnConsumeTwiceIsOnceAtSum", apart := false }
def FnConsumeTwiceIsOnceAtSumSaid : Prop := fnConsumeTwiceIsOnceAtSumRow.holds Try.pinned (OpenSpec.ofChange fnConsumeTwiceIsOnceAtSumSpec)

/-- ITS FALSE NEIGHBOUR: 'it returns false'. Refute it at one input. -/
def fnConsumeTwiceIsOnceAtSumWrong : ChangeSpec := { name := "fnConsumeTwiceIsOnceAtSum", fn := fun _ => fun
  | [d1, d2, d3] => { results := [.lit (.bool false)], args := [d1, d2, d3] }
  | _ => none }
def FnConsumeTwiceIsOnceAtSumWrongFalsely : Prop := fnConsumeTwiceIsOnceAtSumRow.holds Try.pinned (OpenSpec.ofChange fnConsumeTwiceIsOnceAtSumWrong)

/-- 'zzlaws_internal_stream_b1.FnConsumeStreamScript': WHATEVER THE INPUT: true; the input reads as it did. -/
def fnConsumeStreamScriptSpec : ChangeSpec := { name := "fnConsumeStreamScript", fn := fun _ => fun
  | [d1, d2] => { results := [.lit (.bool true)], args := [d1, d2] }
  | _ => none }
def fnConsumeStreamScriptRow : OpenClaim := { program := "qxb6619168a", sum := "cec44cc0f2f097b57cfb3bae71977a90d7670c5017a3b785a207ade584d4df29", func := "nybble.example/nybble/zzlaws_internal_stream_b1.FnConsumeStreamScript", spec := "fnConsumeStreamScript", apart := false }
def FnConsumeStreamScriptSaid : Prop := fnConsumeStreamScriptRow.holds Try.pinned (OpenSpec.ofChange fnConsumeStreamScriptSpec)

/-- ITS FALSE NEIGHBOUR: 'it returns false'. Refute it at one input. -/
def fnConsumeStreamScriptWrong : ChangeSpec := { name := "fnConsumeStreamScript", fn := fun _ => fun
  | [d1, d2] => { results := [.lit (.bool false)], args := [d1, d2] }
  | _ => none }
def FnConsumeStreamScriptWrongFalsely : Prop := fnConsumeStreamScriptRow.holds Try.pinned (OpenSpec.ofChange fnConsumeStreamScriptWrong)

/-- 'zzlaws_internal_stream_b1.FnLinesAppendTextModel': WHATEVER THE INPUT: true; the input reads as it did. -/
def fnLinesAppendTextModelSpec : ChangeSpec := { name := "fnLinesAppendTextModel", fn := fun _ => fun
  | [d1, d2, d3, d4, d5, d6] => { results := [.lit (.bool true)], args := [d1, d2, d3, d4, d5, d6] }
  | _ => none }
def fnLinesAppendTextModelRow : OpenClaim := { program := "qxb6619168a", sum := "cec44cc0f2f097b57cfb3bae71977a90d7670c5017a3b785a207ade584d4df29", func := "nybble.example/nybble/zzlaws_internal_stream_b1.FnLinesAppendTextModel", spec := "fnLinesAppendTextModel", apart := false }
def FnLinesAppendTextModelSaid : Prop := fnLinesAppendTextModelRow.holds Try.pinned (OpenSpec.ofChange fnLinesAppendTextModelSpec)

/-- ITS FALSE NEIGHBOUR: 'it returns false'. Refute it at one input. -/
def fnLinesAppendTextModelWrong : ChangeSpec := { name := "fnLinesAppendTextModel", fn := fun _ => fun
  | [d1, d2, d3, d4, d5, d6] => { results := [.lit (.bool false)], args := [d1, d2, d3, d4, d5, d6] }
  | _ => none }
def FnLinesAppendTextModelWrongFalsely : Prop := fnLinesAppendTextModelRow.holds Try.pinned (OpenSpec.ofChange fnLinesAppendTextModelWrong)

/-- 'zzlaws_internal_stream_b1.FnLinesAppendTextSplitAnyCut': WHATEVER THE INPUT: true; the input reads as it did. -/
def fnLinesAppendTextSplitAnyCutSpec : ChangeSpec := { name := "fnLinesAppendTextSplitAnyCut", fn := fun _ => fun
  | [d1, d2, d3, d4, d5, d6, d7] => { results := [.lit (.bool true)], args := [d1, d2, d3, d4, d5, d6, d7] }
  | _ => none }
def fnLinesAppendTextSplitAnyCutRow : OpenClaim := { program := "qxb6619168a", sum := "cec44cc0f2f097b57cfb3bae71977a90d7670c5017a3b785a207ade584d4df29", func := "nybble.example/nybble/zzlaws_internal_stream_b1.FnLinesAppendTextSplitAnyCut", spec := "fnLinesAppendTextSplitAnyCut", apart := false }
def FnLinesAppendTextSplitAnyCutSaid : Prop := fnLinesAppendTextSplitAnyCutRow.holds Try.pinned (OpenSpec.ofChange fnLinesAppendTextSplitAnyCutSpec)

/-- ITS FALSE NEIGHBOUR: 'it returns false'. Refute it at one input. -/
def fnLinesAppendTextSplitAnyCutWrong : ChangeSpec := { name := "fnLinesAppendTextSplitAnyCut", fn := fun _ => fun
  | [d1, d2, d3, d4, d5, d6, d7] => { results := [.lit (.bool false)], args := [d1, d2, d3, d4, d5, d6, d7] }
  | _ => none }
def FnLinesAppendTextSplitAnyCutWrongFalsely : Prop := fnLinesAppendTextSplitAnyCutRow.holds Try.pinned (OpenSpec.ofChange fnLinesAppendTextSplitAnyCutWrong)

/-- 'zzlaws_internal_stream_b1.FnLinesCutGreatestWholePrefix': WHATEVER THE INPUT: true; the input reads as it did. -/
def fnLinesCutGreatestWholePrefixSpec : ChangeSpec := { name := "fnLinesCutGreatestWholePrefix", fn := fun _ => fun
  | [d1, d2, d3, d4] => { results := [.lit (.bool true)], args := [d1, d2, d3, d4] }
  | _ => none }
def fnLinesCutGreatestWholePrefixRow : OpenClaim := { program := "qxb6619168a", sum := "cec44cc0f2f097b57cfb3bae71977a90d7670c5017a3b785a207ade584d4df29", func := "nybble.example/nybble/zzlaws_internal_stream_b1.FnLinesCutGreatestWholePrefix", spec := "fnLinesCutGreatestWholePrefix", apart := false }
def FnLinesCutGreatestWholePrefixSaid : Prop := fnLinesCutGreatestWholePrefixRow.holds Try.pinned (OpenSpec.ofChange fnLinesCutGreatestWholePrefixSpec)

/-- ITS FALSE NEIGHBOUR: 'it returns false'. Refute it at one input. -/
def fnLinesCutGreatestWholePrefixWrong : ChangeSpec := { name := "fnLinesCutGreatestWholePrefix", fn := fun _ => fun
  | [d1, d2, d3, d4] => { results := [.lit (.bool false)], args := [d1, d2, d3, d4] }
  | _ => none }
def FnLinesCutGreatestWholePrefixWrongFalsely : Prop := fnLinesCutGreatestWholePrefixRow.holds Try.pinned (OpenSpec.ofChange fnLinesCutGreatestWholePrefixWrong)

end Rows
end Go.Proofs.Qxb6619168a
