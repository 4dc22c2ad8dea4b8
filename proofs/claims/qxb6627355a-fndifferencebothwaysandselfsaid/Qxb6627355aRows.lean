/-
  No cell of these rows narrows 'for every input' (looked for: loops, veiled, ifaces, maps, wideKeys, modest, calm, conditions, laid).
  DERIVED. THE GIVEN ROWS OF THIS SEAT. 2 by the template 'for every input the law returns true; each argument reads behind the call as it read before'; 0 by the template 'total and deterministic' (their statements: Qxb6627355aTotals.lean).
  GIVEN WITH THE SEED: the statements are not yours to turn. If you find one false, say at which input.
  Laid BY PROGRAM, IN A SANDBOX (cutbox-rows.mjs): the forced cells as the released guide's own fill.sh prints them over the translation 0d03701b98aff640… (all of the seat's roots in one cut). By AI agents, Wed Nov 11 2026. No macro, syntax, notation, axiom, sorry.
-/
import Derived.Test.Qxb6627355aChecked
import GoSem.Claim
import GoSem.ClaimJoined
import GoSem.ClaimMapViews
import Derived.JoinedTies
import Derived.KernelRfl
namespace Go.Proofs.Qxb6627355a
/- THE CELL 'sum', in the pinned program and in every row, IS THE sha256 OF THE DUMP (.gsa) THAT Qxb6627355aProg.lean LOADS. Nothing in Lean hashes anything: it is a label: what it is worth is what the hold of that sum in a sandbox is worth. -/
noncomputable def Try.pinned : Pinned := { name := "qxb6627355a", sum := "0d03701b98aff640c4c34b09cc74045e2c7d8f2adb4f16f60784b6c529b137e7", checked := Try.checked }
namespace Rows
def none {H : Type} : Left H := { results := [], args := [] }

/-- 'zzlaws_internal_hashprefix_b1.FnDifferenceMatchesMembershipModel': WHATEVER THE INPUT: true; the input reads as it did. -/
def fnDifferenceMatchesMembershipModelSpec : ChangeSpec := { name := "fnDifferenceMatchesMembershipModel", fn := fun _ => fun
  | [d1, d2, d3, d4] => { results := [.lit (.bool true)], args := [d1, d2, d3, d4] }
  | _ => none }
def fnDifferenceMatchesMembershipModelRow : OpenClaim := { program := "qxb6627355a", sum := "0d03701b98aff640c4c34b09cc74045e2c7d8f2adb4f16f60784b6c529b137e7", func := "example.com/hashwarden/hashwarden/zzlaws_internal_hashprefix_b1.FnDifferenceMatchesMembershipModel", spec := "fnDifferenceMatchesMembershipModel", inPlace := ["internal/bytealg.Compare"], apart := false }
def FnDifferenceMatchesMembershipModelSaid : Prop := fnDifferenceMatchesMembershipModelRow.holds Try.pinned (OpenSpec.ofChange fnDifferenceMatchesMembershipModelSpec)

/-- ITS FALSE NEIGHBOUR: 'it returns false'. Refute it at one input. -/
def fnDifferenceMatchesMembershipModelWrong : ChangeSpec := { name := "fnDifferenceMatchesMembershipModel", fn := fun _ => fun
  | [d1, d2, d3, d4] => { results := [.lit (.bool false)], args := [d1, d2, d3, d4] }
  | _ => none }
def FnDifferenceMatchesMembershipModelWrongFalsely : Prop := fnDifferenceMatchesMembershipModelRow.holds Try.pinned (OpenSpec.ofChange fnDifferenceMatchesMembershipModelWrong)

/-- 'zzlaws_internal_hashprefix_b1.FnDifferenceBothWaysAndSelf': WHATEVER THE INPUT: true; the input reads as it did. -/
def fnDifferenceBothWaysAndSelfSpec : ChangeSpec := { name := "fnDifferenceBothWaysAndSelf", fn := fun _ => fun
  | [d1, d2, d3, d4] => { results := [.lit (.bool true)], args := [d1, d2, d3, d4] }
  | _ => none }
def fnDifferenceBothWaysAndSelfRow : OpenClaim := { program := "qxb6627355a", sum := "0d03701b98aff640c4c34b09cc74045e2c7d8f2adb4f16f60784b6c529b137e7", func := "example.com/hashwarden/hashwarden/zzlaws_internal_hashprefix_b1.FnDifferenceBothWaysAndSelf", spec := "fnDifferenceBothWaysAndSelf", inPlace := ["internal/bytealg.Compare"], apart := false }
def FnDifferenceBothWaysAndSelfSaid : Prop := fnDifferenceBothWaysAndSelfRow.holds Try.pinned (OpenSpec.ofChange fnDifferenceBothWaysAndSelfSpec)

/-- ITS FALSE NEIGHBOUR: 'it returns false'. Refute it at one input. -/
def fnDifferenceBothWaysAndSelfWrong : ChangeSpec := { name := "fnDifferenceBothWaysAndSelf", fn := fun _ => fun
  | [d1, d2, d3, d4] => { results := [.lit (.bool false)], args := [d1, d2, d3, d4] }
  | _ => none }
def FnDifferenceBothWaysAndSelfWrongFalsely : Prop := fnDifferenceBothWaysAndSelfRow.holds Try.pinned (OpenSpec.ofChange fnDifferenceBothWaysAndSelfWrong)

end Rows
end Go.Proofs.Qxb6627355a
