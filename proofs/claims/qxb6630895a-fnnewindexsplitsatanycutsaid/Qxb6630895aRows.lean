/-
  No cell of these rows narrows 'for every input' (looked for: loops, veiled, ifaces, maps, wideKeys, modest, calm, conditions, laid).
  DERIVED. THE GIVEN ROWS OF THIS SEAT. 2 by the template 'for every input the law returns true; each argument reads behind the call as it read before'; 0 by the template 'total and deterministic' (their statements: Qxb6630895aTotals.lean).
  GIVEN WITH THE SEED: the statements are not yours to turn. If you find one false, say at which input.
  Laid BY PROGRAM, IN A SANDBOX (cutbox-rows.mjs): the forced cells as the released guide's own fill.sh prints them over the translation d3d6ddc5946d3632… (all of the seat's roots in one cut). By AI agents, Wed Nov 11 2026. No macro, syntax, notation, axiom, sorry.
-/
import Derived.Test.Qxb6630895aChecked
import GoSem.Claim
import GoSem.ClaimJoined
import GoSem.ClaimMapViews
import Derived.JoinedTies
import Derived.KernelRfl
namespace Go.Proofs.Qxb6630895a
/- THE CELL 'sum', in the pinned program and in every row, IS THE sha256 OF THE DUMP (.gsa) THAT Qxb6630895aProg.lean LOADS. Nothing in Lean hashes anything: it is a label: what it is worth is what the hold of that sum in a sandbox is worth. -/
noncomputable def Try.pinned : Pinned := { name := "qxb6630895a", sum := "d3d6ddc5946d363209d57e7f7f241a9a2191fdc2c4843114d6d5c6a06c502ce8", checked := Try.checked }
namespace Rows
def none {H : Type} : Left H := { results := [], args := [] }

/-- 'zzlaws_internal_flows_b1.FnNewIndexListsEveryCrossingFlowOnceInOrder': WHATEVER THE INPUT: true; the input reads as it did. -/
def fnNewIndexListsEveryCrossingFlowOnceInOrderSpec : ChangeSpec := { name := "fnNewIndexListsEveryCrossingFlowOnceInOrder", fn := fun _ => fun
  | [d1, d2] => { results := [.lit (.bool true)], args := [d1, d2] }
  | _ => none }
def fnNewIndexListsEveryCrossingFlowOnceInOrderRow : OpenClaim := { program := "qxb6630895a", sum := "d3d6ddc5946d363209d57e7f7f241a9a2191fdc2c4843114d6d5c6a06c502ce8", func := "example.com/culprit/culprit/zzlaws_internal_flows_b1.FnNewIndexListsEveryCrossingFlowOnceInOrder", spec := "fnNewIndexListsEveryCrossingFlowOnceInOrder", unfollowed := true, recurses := true, apart := false }
def FnNewIndexListsEveryCrossingFlowOnceInOrderSaid : Prop := fnNewIndexListsEveryCrossingFlowOnceInOrderRow.holds Try.pinned (OpenSpec.ofChange fnNewIndexListsEveryCrossingFlowOnceInOrderSpec)

/-- ITS FALSE NEIGHBOUR: 'it returns false'. Refute it at one input. -/
def fnNewIndexListsEveryCrossingFlowOnceInOrderWrong : ChangeSpec := { name := "fnNewIndexListsEveryCrossingFlowOnceInOrder", fn := fun _ => fun
  | [d1, d2] => { results := [.lit (.bool false)], args := [d1, d2] }
  | _ => none }
def FnNewIndexListsEveryCrossingFlowOnceInOrderWrongFalsely : Prop := fnNewIndexListsEveryCrossingFlowOnceInOrderRow.holds Try.pinned (OpenSpec.ofChange fnNewIndexListsEveryCrossingFlowOnceInOrderWrong)

/-- 'zzlaws_internal_flows_b1.FnNewIndexSplitsAtAnyCut': WHATEVER THE INPUT: true; the input reads as it did. -/
def fnNewIndexSplitsAtAnyCutSpec : ChangeSpec := { name := "fnNewIndexSplitsAtAnyCut", fn := fun _ => fun
  | [d1, d2, d3] => { results := [.lit (.bool true)], args := [d1, d2, d3] }
  | _ => none }
def fnNewIndexSplitsAtAnyCutRow : OpenClaim := { program := "qxb6630895a", sum := "d3d6ddc5946d363209d57e7f7f241a9a2191fdc2c4843114d6d5c6a06c502ce8", func := "example.com/culprit/culprit/zzlaws_internal_flows_b1.FnNewIndexSplitsAtAnyCut", spec := "fnNewIndexSplitsAtAnyCut", unfollowed := true, recurses := true, apart := false }
def FnNewIndexSplitsAtAnyCutSaid : Prop := fnNewIndexSplitsAtAnyCutRow.holds Try.pinned (OpenSpec.ofChange fnNewIndexSplitsAtAnyCutSpec)

/-- ITS FALSE NEIGHBOUR: 'it returns false'. Refute it at one input. -/
def fnNewIndexSplitsAtAnyCutWrong : ChangeSpec := { name := "fnNewIndexSplitsAtAnyCut", fn := fun _ => fun
  | [d1, d2, d3] => { results := [.lit (.bool false)], args := [d1, d2, d3] }
  | _ => none }
def FnNewIndexSplitsAtAnyCutWrongFalsely : Prop := fnNewIndexSplitsAtAnyCutRow.holds Try.pinned (OpenSpec.ofChange fnNewIndexSplitsAtAnyCutWrong)

end Rows
end Go.Proofs.Qxb6630895a
