/-
  No cell of these rows narrows 'for every input' (looked for: loops, veiled, ifaces, maps, wideKeys, modest, calm, conditions, laid).
  DERIVED. THE GIVEN ROWS OF THIS SEAT. 3 by the template 'for every input the law returns true; each argument reads behind the call as it read before'; 0 by the template 'total and deterministic' (their statements: Qxb6617152aTotals.lean).
  GIVEN WITH THE SEED: the statements are not yours to turn. If you find one false, say at which input.
  Laid BY PROGRAM, IN A SANDBOX (cutbox-rows.mjs): the forced cells as the released guide's own fill.sh prints them over the translation 234996b941e4fa5f… (all of the seat's roots in one cut). By AI agents, Wed Nov 11 2026. No macro, syntax, notation, axiom, sorry.
-/
import Derived.Test.Qxb6617152aChecked
import GoSem.Claim
import GoSem.ClaimJoined
import GoSem.ClaimMapViews
import Derived.JoinedTies
import Derived.KernelRfl
namespace Go.Proofs.Qxb6617152a
/- THE CELL 'sum', in the pinned program and in every row, IS THE sha256 OF THE DUMP (.gsa) THAT Qxb6617152aProg.lean LOADS. Nothing in Lean hashes anything: it is a label: what it is worth is what the hold of that sum in a sandbox is worth. -/
noncomputable def Try.pinned : Pinned := { name := "qxb6617152a", sum := "234996b941e4fa5f7a750c2a22eb41a6282fe13a3157d4f4a0db4ba88bbd47d5", checked := Try.checked }
namespace Rows
def none {H : Type} : Left H := { results := [], args := [] }

/-- 'zzlaws_internal_workload_b1.FnHeapDownSortsByHeapsort': WHATEVER THE INPUT: true; the input reads as it did. -/
def fnHeapDownSortsByHeapsortSpec : ChangeSpec := { name := "fnHeapDownSortsByHeapsort", fn := fun _ => fun
  | [d1, d2] => { results := [.lit (.bool true)], args := [d1, d2] }
  | _ => none }
def fnHeapDownSortsByHeapsortRow : OpenClaim := { program := "qxb6617152a", sum := "234996b941e4fa5f7a750c2a22eb41a6282fe13a3157d4f4a0db4ba88bbd47d5", func := "example.com/slackwater/slackwater/zzlaws_internal_workload_b1.FnHeapDownSortsByHeapsort", spec := "fnHeapDownSortsByHeapsort", apart := false }
def FnHeapDownSortsByHeapsortSaid : Prop := fnHeapDownSortsByHeapsortRow.holds Try.pinned (OpenSpec.ofChange fnHeapDownSortsByHeapsortSpec)

/-- ITS FALSE NEIGHBOUR: 'it returns false'. Refute it at one input. -/
def fnHeapDownSortsByHeapsortWrong : ChangeSpec := { name := "fnHeapDownSortsByHeapsort", fn := fun _ => fun
  | [d1, d2] => { results := [.lit (.bool false)], args := [d1, d2] }
  | _ => none }
def FnHeapDownSortsByHeapsortWrongFalsely : Prop := fnHeapDownSortsByHeapsortRow.holds Try.pinned (OpenSpec.ofChange fnHeapDownSortsByHeapsortWrong)

/-- 'zzlaws_internal_workload_b1.FnHeapDownRestoresSubtree': WHATEVER THE INPUT: true; the input reads as it did. -/
def fnHeapDownRestoresSubtreeSpec : ChangeSpec := { name := "fnHeapDownRestoresSubtree", fn := fun _ => fun
  | [d1, d2, d3] => { results := [.lit (.bool true)], args := [d1, d2, d3] }
  | _ => none }
def fnHeapDownRestoresSubtreeRow : OpenClaim := { program := "qxb6617152a", sum := "234996b941e4fa5f7a750c2a22eb41a6282fe13a3157d4f4a0db4ba88bbd47d5", func := "example.com/slackwater/slackwater/zzlaws_internal_workload_b1.FnHeapDownRestoresSubtree", spec := "fnHeapDownRestoresSubtree", apart := false }
def FnHeapDownRestoresSubtreeSaid : Prop := fnHeapDownRestoresSubtreeRow.holds Try.pinned (OpenSpec.ofChange fnHeapDownRestoresSubtreeSpec)

/-- ITS FALSE NEIGHBOUR: 'it returns false'. Refute it at one input. -/
def fnHeapDownRestoresSubtreeWrong : ChangeSpec := { name := "fnHeapDownRestoresSubtree", fn := fun _ => fun
  | [d1, d2, d3] => { results := [.lit (.bool false)], args := [d1, d2, d3] }
  | _ => none }
def FnHeapDownRestoresSubtreeWrongFalsely : Prop := fnHeapDownRestoresSubtreeRow.holds Try.pinned (OpenSpec.ofChange fnHeapDownRestoresSubtreeWrong)

/-- 'zzlaws_internal_workload_b1.FnPopulationReadAgreesWithDevicesIn': WHATEVER THE INPUT: true; the input reads as it did. -/
def fnPopulationReadAgreesWithDevicesInSpec : ChangeSpec := { name := "fnPopulationReadAgreesWithDevicesIn", fn := fun _ => fun
  | [d1, d2, d3, d4, d5, d6, d7, d8, d9] => { results := [.lit (.bool true)], args := [d1, d2, d3, d4, d5, d6, d7, d8, d9] }
  | _ => none }
def fnPopulationReadAgreesWithDevicesInRow : OpenClaim := { program := "qxb6617152a", sum := "234996b941e4fa5f7a750c2a22eb41a6282fe13a3157d4f4a0db4ba88bbd47d5", func := "example.com/slackwater/slackwater/zzlaws_internal_workload_b1.FnPopulationReadAgreesWithDevicesIn", spec := "fnPopulationReadAgreesWithDevicesIn", apart := false }
def FnPopulationReadAgreesWithDevicesInSaid : Prop := fnPopulationReadAgreesWithDevicesInRow.holds Try.pinned (OpenSpec.ofChange fnPopulationReadAgreesWithDevicesInSpec)

/-- ITS FALSE NEIGHBOUR: 'it returns false'. Refute it at one input. -/
def fnPopulationReadAgreesWithDevicesInWrong : ChangeSpec := { name := "fnPopulationReadAgreesWithDevicesIn", fn := fun _ => fun
  | [d1, d2, d3, d4, d5, d6, d7, d8, d9] => { results := [.lit (.bool false)], args := [d1, d2, d3, d4, d5, d6, d7, d8, d9] }
  | _ => none }
def FnPopulationReadAgreesWithDevicesInWrongFalsely : Prop := fnPopulationReadAgreesWithDevicesInRow.holds Try.pinned (OpenSpec.ofChange fnPopulationReadAgreesWithDevicesInWrong)

end Rows
end Go.Proofs.Qxb6617152a
