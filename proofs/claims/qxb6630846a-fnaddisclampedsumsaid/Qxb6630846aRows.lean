/-
  No cell of these rows narrows 'for every input' (looked for: loops, veiled, ifaces, maps, wideKeys, modest, calm, conditions, laid).
  DERIVED. THE GIVEN ROWS OF THIS SEAT. 2 by the template 'for every input the law returns true; each argument reads behind the call as it read before'; 0 by the template 'total and deterministic' (their statements: Qxb6630846aTotals.lean).
  GIVEN WITH THE SEED: the statements are not yours to turn. If you find one false, say at which input.
  Laid BY PROGRAM, IN A SANDBOX (cutbox-rows.mjs): the forced cells as the released guide's own fill.sh prints them over the translation 3b128490e67937f3… (all of the seat's roots in one cut). By AI agents, Wed Nov 11 2026. No macro, syntax, notation, axiom, sorry.
-/
import Derived.Test.Qxb6630846aChecked
import GoSem.Claim
import GoSem.ClaimJoined
import GoSem.ClaimMapViews
import Derived.JoinedTies
import Derived.KernelRfl
namespace Go.Proofs.Qxb6630846a
/- THE CELL 'sum', in the pinned program and in every row, IS THE sha256 OF THE DUMP (.gsa) THAT Qxb6630846aProg.lean LOADS. Nothing in Lean hashes anything: it is a label: what it is worth is what the hold of that sum in a sandbox is worth. -/
noncomputable def Try.pinned : Pinned := { name := "qxb6630846a", sum := "3b128490e67937f341e105e9a98caf4a488d0c047de672bd3ca96256ec3882c9", checked := Try.checked }
namespace Rows
def none {H : Type} : Left H := { results := [], args := [] }

/-- 'zzlaws_pkg_cost_b1.FnAddIsClampedSum': WHATEVER THE INPUT: true; the input reads as it did. -/
def fnAddIsClampedSumSpec : ChangeSpec := { name := "fnAddIsClampedSum", fn := fun _ => fun
  | [d1, d2] => { results := [.lit (.bool true)], args := [d1, d2] }
  | _ => none }
def fnAddIsClampedSumRow : OpenClaim := { program := "qxb6630846a", sum := "3b128490e67937f341e105e9a98caf4a488d0c047de672bd3ca96256ec3882c9", func := "example.com/fieldtoll/fieldtoll/zzlaws_pkg_cost_b1.FnAddIsClampedSum", spec := "fnAddIsClampedSum", apart := false }
def FnAddIsClampedSumSaid : Prop := fnAddIsClampedSumRow.holds Try.pinned (OpenSpec.ofChange fnAddIsClampedSumSpec)

/-- ITS FALSE NEIGHBOUR: 'it returns false'. Refute it at one input. -/
def fnAddIsClampedSumWrong : ChangeSpec := { name := "fnAddIsClampedSum", fn := fun _ => fun
  | [d1, d2] => { results := [.lit (.bool false)], args := [d1, d2] }
  | _ => none }
def FnAddIsClampedSumWrongFalsely : Prop := fnAddIsClampedSumRow.holds Try.pinned (OpenSpec.ofChange fnAddIsClampedSumWrong)

/-- 'zzlaws_pkg_cost_b1.FnAddUndoneByNegation': WHATEVER THE INPUT: true; the input reads as it did. -/
def fnAddUndoneByNegationSpec : ChangeSpec := { name := "fnAddUndoneByNegation", fn := fun _ => fun
  | [d1, d2] => { results := [.lit (.bool true)], args := [d1, d2] }
  | _ => none }
def fnAddUndoneByNegationRow : OpenClaim := { program := "qxb6630846a", sum := "3b128490e67937f341e105e9a98caf4a488d0c047de672bd3ca96256ec3882c9", func := "example.com/fieldtoll/fieldtoll/zzlaws_pkg_cost_b1.FnAddUndoneByNegation", spec := "fnAddUndoneByNegation", apart := false }
def FnAddUndoneByNegationSaid : Prop := fnAddUndoneByNegationRow.holds Try.pinned (OpenSpec.ofChange fnAddUndoneByNegationSpec)

/-- ITS FALSE NEIGHBOUR: 'it returns false'. Refute it at one input. -/
def fnAddUndoneByNegationWrong : ChangeSpec := { name := "fnAddUndoneByNegation", fn := fun _ => fun
  | [d1, d2] => { results := [.lit (.bool false)], args := [d1, d2] }
  | _ => none }
def FnAddUndoneByNegationWrongFalsely : Prop := fnAddUndoneByNegationRow.holds Try.pinned (OpenSpec.ofChange fnAddUndoneByNegationWrong)

end Rows
end Go.Proofs.Qxb6630846a
