/-
  No cell of these rows narrows 'for every input' (looked for: loops, veiled, ifaces, maps, wideKeys, modest, calm, conditions, laid).
  DERIVED. THE GIVEN ROWS OF THIS SEAT. 8 by the template 'for every input the law returns true; each argument reads behind the call as it read before'; 0 by the template 'total and deterministic' (their statements: Qxb6617005aTotals.lean).
  GIVEN WITH THE SEED: the statements are not yours to turn. If you find one false, say at which input.
  Laid BY PROGRAM, IN A SANDBOX (cutbox-rows.mjs): the forced cells as the released guide's own fill.sh prints them over the translation 8cec0e4b15dea096… (all of the seat's roots in one cut). By AI agents, Wed Nov 11 2026. No macro, syntax, notation, axiom, sorry.
-/
import Derived.Test.Qxb6617005aChecked
import GoSem.Claim
import GoSem.ClaimJoined
import GoSem.ClaimMapViews
import Derived.JoinedTies
import Derived.KernelRfl
namespace Go.Proofs.Qxb6617005a
/- THE CELL 'sum', in the pinned program and in every row, IS THE sha256 OF THE DUMP (.gsa) THAT Qxb6617005aProg.lean LOADS. Nothing in Lean hashes anything: it is a label: what it is worth is what the hold of that sum in a sandbox is worth. -/
noncomputable def Try.pinned : Pinned := { name := "qxb6617005a", sum := "8cec0e4b15dea09628728264e50d1704cf611ddd139e9cbc340cfb84f91c7490", checked := Try.checked }
namespace Rows
def none {H : Type} : Left H := { results := [], args := [] }

/-- 'zzlaws_history_b1.FnRemoveEndsTheCurrentValue': WHATEVER THE INPUT: true; the input reads as it did. -/
def fnRemoveEndsTheCurrentValueSpec : ChangeSpec := { name := "fnRemoveEndsTheCurrentValue", fn := fun _ => fun
  | [d1, d2, d3] => { results := [.lit (.bool true)], args := [d1, d2, d3] }
  | _ => none }
def fnRemoveEndsTheCurrentValueRow : OpenClaim := { program := "qxb6617005a", sum := "8cec0e4b15dea09628728264e50d1704cf611ddd139e9cbc340cfb84f91c7490", func := "example.com/userset/userset/zzlaws_history_b1.FnRemoveEndsTheCurrentValue", spec := "fnRemoveEndsTheCurrentValue", unfollowed := true, recurses := true, apart := false }
def FnRemoveEndsTheCurrentValueSaid : Prop := fnRemoveEndsTheCurrentValueRow.holds Try.pinned (OpenSpec.ofChange fnRemoveEndsTheCurrentValueSpec)

/-- ITS FALSE NEIGHBOUR: 'it returns false'. Refute it at one input. -/
def fnRemoveEndsTheCurrentValueWrong : ChangeSpec := { name := "fnRemoveEndsTheCurrentValue", fn := fun _ => fun
  | [d1, d2, d3] => { results := [.lit (.bool false)], args := [d1, d2, d3] }
  | _ => none }
def FnRemoveEndsTheCurrentValueWrongFalsely : Prop := fnRemoveEndsTheCurrentValueRow.holds Try.pinned (OpenSpec.ofChange fnRemoveEndsTheCurrentValueWrong)

/-- 'zzlaws_history_b1.FnRemoveThenForgetLetsGoOfEverything': WHATEVER THE INPUT: true; the input reads as it did. -/
def fnRemoveThenForgetLetsGoOfEverythingSpec : ChangeSpec := { name := "fnRemoveThenForgetLetsGoOfEverything", fn := fun _ => fun
  | [d1, d2] => { results := [.lit (.bool true)], args := [d1, d2] }
  | _ => none }
def fnRemoveThenForgetLetsGoOfEverythingRow : OpenClaim := { program := "qxb6617005a", sum := "8cec0e4b15dea09628728264e50d1704cf611ddd139e9cbc340cfb84f91c7490", func := "example.com/userset/userset/zzlaws_history_b1.FnRemoveThenForgetLetsGoOfEverything", spec := "fnRemoveThenForgetLetsGoOfEverything", unfollowed := true, recurses := true, apart := false }
def FnRemoveThenForgetLetsGoOfEverythingSaid : Prop := fnRemoveThenForgetLetsGoOfEverythingRow.holds Try.pinned (OpenSpec.ofChange fnRemoveThenForgetLetsGoOfEverythingSpec)

/-- ITS FALSE NEIGHBOUR: 'it returns false'. Refute it at one input. -/
def fnRemoveThenForgetLetsGoOfEverythingWrong : ChangeSpec := { name := "fnRemoveThenForgetLetsGoOfEverything", fn := fun _ => fun
  | [d1, d2] => { results := [.lit (.bool false)], args := [d1, d2] }
  | _ => none }
def FnRemoveThenForgetLetsGoOfEverythingWrongFalsely : Prop := fnRemoveThenForgetLetsGoOfEverythingRow.holds Try.pinned (OpenSpec.ofChange fnRemoveThenForgetLetsGoOfEverythingWrong)

/-- 'zzlaws_history_b1.FnForgetKeepsAtFromBeforeOn': WHATEVER THE INPUT: true; the input reads as it did. -/
def fnForgetKeepsAtFromBeforeOnSpec : ChangeSpec := { name := "fnForgetKeepsAtFromBeforeOn", fn := fun _ => fun
  | [d1, d2, d3] => { results := [.lit (.bool true)], args := [d1, d2, d3] }
  | _ => none }
def fnForgetKeepsAtFromBeforeOnRow : OpenClaim := { program := "qxb6617005a", sum := "8cec0e4b15dea09628728264e50d1704cf611ddd139e9cbc340cfb84f91c7490", func := "example.com/userset/userset/zzlaws_history_b1.FnForgetKeepsAtFromBeforeOn", spec := "fnForgetKeepsAtFromBeforeOn", unfollowed := true, recurses := true, apart := false }
def FnForgetKeepsAtFromBeforeOnSaid : Prop := fnForgetKeepsAtFromBeforeOnRow.holds Try.pinned (OpenSpec.ofChange fnForgetKeepsAtFromBeforeOnSpec)

/-- ITS FALSE NEIGHBOUR: 'it returns false'. Refute it at one input. -/
def fnForgetKeepsAtFromBeforeOnWrong : ChangeSpec := { name := "fnForgetKeepsAtFromBeforeOn", fn := fun _ => fun
  | [d1, d2, d3] => { results := [.lit (.bool false)], args := [d1, d2, d3] }
  | _ => none }
def FnForgetKeepsAtFromBeforeOnWrongFalsely : Prop := fnForgetKeepsAtFromBeforeOnRow.holds Try.pinned (OpenSpec.ofChange fnForgetKeepsAtFromBeforeOnWrong)

/-- 'zzlaws_history_b1.FnForgetTwiceIsForgetAtTheLater': WHATEVER THE INPUT: true; the input reads as it did. -/
def fnForgetTwiceIsForgetAtTheLaterSpec : ChangeSpec := { name := "fnForgetTwiceIsForgetAtTheLater", fn := fun _ => fun
  | [d1, d2, d3] => { results := [.lit (.bool true)], args := [d1, d2, d3] }
  | _ => none }
def fnForgetTwiceIsForgetAtTheLaterRow : OpenClaim := { program := "qxb6617005a", sum := "8cec0e4b15dea09628728264e50d1704cf611ddd139e9cbc340cfb84f91c7490", func := "example.com/userset/userset/zzlaws_history_b1.FnForgetTwiceIsForgetAtTheLater", spec := "fnForgetTwiceIsForgetAtTheLater", unfollowed := true, recurses := true, apart := false }
def FnForgetTwiceIsForgetAtTheLaterSaid : Prop := fnForgetTwiceIsForgetAtTheLaterRow.holds Try.pinned (OpenSpec.ofChange fnForgetTwiceIsForgetAtTheLaterSpec)

/-- ITS FALSE NEIGHBOUR: 'it returns false'. Refute it at one input. -/
def fnForgetTwiceIsForgetAtTheLaterWrong : ChangeSpec := { name := "fnForgetTwiceIsForgetAtTheLater", fn := fun _ => fun
  | [d1, d2, d3] => { results := [.lit (.bool false)], args := [d1, d2, d3] }
  | _ => none }
def FnForgetTwiceIsForgetAtTheLaterWrongFalsely : Prop := fnForgetTwiceIsForgetAtTheLaterRow.holds Try.pinned (OpenSpec.ofChange fnForgetTwiceIsForgetAtTheLaterWrong)

/-- 'zzlaws_history_b1.FnAtAgreesAcrossAnyCut': WHATEVER THE INPUT: true; the input reads as it did. -/
def fnAtAgreesAcrossAnyCutSpec : ChangeSpec := { name := "fnAtAgreesAcrossAnyCut", fn := fun _ => fun
  | [d1, d2, d3] => { results := [.lit (.bool true)], args := [d1, d2, d3] }
  | _ => none }
def fnAtAgreesAcrossAnyCutRow : OpenClaim := { program := "qxb6617005a", sum := "8cec0e4b15dea09628728264e50d1704cf611ddd139e9cbc340cfb84f91c7490", func := "example.com/userset/userset/zzlaws_history_b1.FnAtAgreesAcrossAnyCut", spec := "fnAtAgreesAcrossAnyCut", unfollowed := true, recurses := true, apart := false }
def FnAtAgreesAcrossAnyCutSaid : Prop := fnAtAgreesAcrossAnyCutRow.holds Try.pinned (OpenSpec.ofChange fnAtAgreesAcrossAnyCutSpec)

/-- ITS FALSE NEIGHBOUR: 'it returns false'. Refute it at one input. -/
def fnAtAgreesAcrossAnyCutWrong : ChangeSpec := { name := "fnAtAgreesAcrossAnyCut", fn := fun _ => fun
  | [d1, d2, d3] => { results := [.lit (.bool false)], args := [d1, d2, d3] }
  | _ => none }
def FnAtAgreesAcrossAnyCutWrongFalsely : Prop := fnAtAgreesAcrossAnyCutRow.holds Try.pinned (OpenSpec.ofChange fnAtAgreesAcrossAnyCutWrong)

/-- 'zzlaws_history_b1.FnAtChangesOnlyAtAWriteOrRemoval': WHATEVER THE INPUT: true; the input reads as it did. -/
def fnAtChangesOnlyAtAWriteOrRemovalSpec : ChangeSpec := { name := "fnAtChangesOnlyAtAWriteOrRemoval", fn := fun _ => fun
  | [d1, d2] => { results := [.lit (.bool true)], args := [d1, d2] }
  | _ => none }
def fnAtChangesOnlyAtAWriteOrRemovalRow : OpenClaim := { program := "qxb6617005a", sum := "8cec0e4b15dea09628728264e50d1704cf611ddd139e9cbc340cfb84f91c7490", func := "example.com/userset/userset/zzlaws_history_b1.FnAtChangesOnlyAtAWriteOrRemoval", spec := "fnAtChangesOnlyAtAWriteOrRemoval", unfollowed := true, recurses := true, apart := false }
def FnAtChangesOnlyAtAWriteOrRemovalSaid : Prop := fnAtChangesOnlyAtAWriteOrRemovalRow.holds Try.pinned (OpenSpec.ofChange fnAtChangesOnlyAtAWriteOrRemovalSpec)

/-- ITS FALSE NEIGHBOUR: 'it returns false'. Refute it at one input. -/
def fnAtChangesOnlyAtAWriteOrRemovalWrong : ChangeSpec := { name := "fnAtChangesOnlyAtAWriteOrRemoval", fn := fun _ => fun
  | [d1, d2] => { results := [.lit (.bool false)], args := [d1, d2] }
  | _ => none }
def FnAtChangesOnlyAtAWriteOrRemovalWrongFalsely : Prop := fnAtChangesOnlyAtAWriteOrRemovalRow.holds Try.pinned (OpenSpec.ofChange fnAtChangesOnlyAtAWriteOrRemovalWrong)

/-- 'zzlaws_history_b1.FnWrittenAddsUpOverAnyCut': WHATEVER THE INPUT: true; the input reads as it did. -/
def fnWrittenAddsUpOverAnyCutSpec : ChangeSpec := { name := "fnWrittenAddsUpOverAnyCut", fn := fun _ => fun
  | [d1, d2, d3] => { results := [.lit (.bool true)], args := [d1, d2, d3] }
  | _ => none }
def fnWrittenAddsUpOverAnyCutRow : OpenClaim := { program := "qxb6617005a", sum := "8cec0e4b15dea09628728264e50d1704cf611ddd139e9cbc340cfb84f91c7490", func := "example.com/userset/userset/zzlaws_history_b1.FnWrittenAddsUpOverAnyCut", spec := "fnWrittenAddsUpOverAnyCut", unfollowed := true, recurses := true, apart := false }
def FnWrittenAddsUpOverAnyCutSaid : Prop := fnWrittenAddsUpOverAnyCutRow.holds Try.pinned (OpenSpec.ofChange fnWrittenAddsUpOverAnyCutSpec)

/-- ITS FALSE NEIGHBOUR: 'it returns false'. Refute it at one input. -/
def fnWrittenAddsUpOverAnyCutWrong : ChangeSpec := { name := "fnWrittenAddsUpOverAnyCut", fn := fun _ => fun
  | [d1, d2, d3] => { results := [.lit (.bool false)], args := [d1, d2, d3] }
  | _ => none }
def FnWrittenAddsUpOverAnyCutWrongFalsely : Prop := fnWrittenAddsUpOverAnyCutRow.holds Try.pinned (OpenSpec.ofChange fnWrittenAddsUpOverAnyCutWrong)

/-- 'zzlaws_history_b1.FnWrittenDifferenceCountsWritesBetween': WHATEVER THE INPUT: true; the input reads as it did. -/
def fnWrittenDifferenceCountsWritesBetweenSpec : ChangeSpec := { name := "fnWrittenDifferenceCountsWritesBetween", fn := fun _ => fun
  | [d1, d2, d3] => { results := [.lit (.bool true)], args := [d1, d2, d3] }
  | _ => none }
def fnWrittenDifferenceCountsWritesBetweenRow : OpenClaim := { program := "qxb6617005a", sum := "8cec0e4b15dea09628728264e50d1704cf611ddd139e9cbc340cfb84f91c7490", func := "example.com/userset/userset/zzlaws_history_b1.FnWrittenDifferenceCountsWritesBetween", spec := "fnWrittenDifferenceCountsWritesBetween", unfollowed := true, recurses := true, apart := false }
def FnWrittenDifferenceCountsWritesBetweenSaid : Prop := fnWrittenDifferenceCountsWritesBetweenRow.holds Try.pinned (OpenSpec.ofChange fnWrittenDifferenceCountsWritesBetweenSpec)

/-- ITS FALSE NEIGHBOUR: 'it returns false'. Refute it at one input. -/
def fnWrittenDifferenceCountsWritesBetweenWrong : ChangeSpec := { name := "fnWrittenDifferenceCountsWritesBetween", fn := fun _ => fun
  | [d1, d2, d3] => { results := [.lit (.bool false)], args := [d1, d2, d3] }
  | _ => none }
def FnWrittenDifferenceCountsWritesBetweenWrongFalsely : Prop := fnWrittenDifferenceCountsWritesBetweenRow.holds Try.pinned (OpenSpec.ofChange fnWrittenDifferenceCountsWritesBetweenWrong)

end Rows
end Go.Proofs.Qxb6617005a
