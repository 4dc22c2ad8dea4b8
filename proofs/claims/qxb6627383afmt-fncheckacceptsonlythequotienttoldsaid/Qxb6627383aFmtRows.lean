/-
  No cell of these rows narrows 'for every input' (looked for: loops, veiled, ifaces, maps, wideKeys, modest, calm, conditions, laid).
  DERIVED. THE GIVEN ROWS OF THIS SEAT. 1 by the template 'for every input the law returns true; each argument reads behind the call as it read before'; 0 by the template 'total and deterministic' (their statements: Qxb6627383aFmtTotals.lean).
  GIVEN WITH THE SEED: the statements are not yours to turn. If you find one false, say at which input.
  Laid BY PROGRAM, IN A SANDBOX (cutbox-rows.mjs): the forced cells as the released guide's own fill.sh prints them over the translation 2fb686d0f2377305… (all of the seat's roots in one cut). By AI agents, Wed Nov 11 2026. No macro, syntax, notation, axiom, sorry.
-/
import Derived.Test.Qxb6627383aFmtChecked
import GoSem.Claim
import GoSem.ClaimJoined
import GoSem.ClaimMapViews
import Derived.JoinedTies
import Derived.KernelRfl
namespace Go.Proofs.Qxb6627383aFmt
/- THE CELL 'sum', in the pinned program and in every row, IS THE sha256 OF THE DUMP (.gsa) THAT Qxb6627383aFmtProg.lean LOADS. Nothing in Lean hashes anything: it is a label: what it is worth is what the hold of that sum in a sandbox is worth. -/
noncomputable def Tryf.pinned : Pinned := { name := "qxb6627383afmt", sum := "2fb686d0f237730510c19088ebfc8c183be9668fa5d2fea93dbb92217acde603", checked := Tryf.checked }
namespace Rows
def none {H : Type} : Left H := { results := [], args := [] }

/-- 'zzlaws_internal_benchtest_b1.FnCheckAcceptsOnlyTheQuotient': WHATEVER THE INPUT: true; the input reads as it did. -/
def fnCheckAcceptsOnlyTheQuotientSpec : ChangeSpec := { name := "fnCheckAcceptsOnlyTheQuotient", fn := fun _ => fun
  | [d1, d2, d3] => { results := [.lit (.bool true)], args := [d1, d2, d3] }
  | _ => none }
def fnCheckAcceptsOnlyTheQuotientRow : OpenClaim := { program := "qxb6627383afmt", sum := "2fb686d0f237730510c19088ebfc8c183be9668fa5d2fea93dbb92217acde603", func := "example.com/relent/relent/zzlaws_internal_benchtest_b1.FnCheckAcceptsOnlyTheQuotient", spec := "fnCheckAcceptsOnlyTheQuotient", stops := ["fmt.errorf"], inPlace := ["fmt.errorf"], apart := false }
/-- NO THEOREM (fmt's text is open here; it may be false): for the released tool's asking of the row's closed facts alone. THE STATEMENT IS 'FnCheckAcceptsOnlyTheQuotientToldSaid' (Qxb6627383aFmtCards.lean). -/
def FnCheckAcceptsOnlyTheQuotientFormAsk : Prop := fnCheckAcceptsOnlyTheQuotientRow.holds Tryf.pinned (OpenSpec.ofChange fnCheckAcceptsOnlyTheQuotientSpec)

/-- ITS FALSE NEIGHBOUR: 'it returns false'. Refute it at one input. -/
def fnCheckAcceptsOnlyTheQuotientWrong : ChangeSpec := { name := "fnCheckAcceptsOnlyTheQuotient", fn := fun _ => fun
  | [d1, d2, d3] => { results := [.lit (.bool false)], args := [d1, d2, d3] }
  | _ => none }
def FnCheckAcceptsOnlyTheQuotientWrongFormAsk : Prop := fnCheckAcceptsOnlyTheQuotientRow.holds Tryf.pinned (OpenSpec.ofChange fnCheckAcceptsOnlyTheQuotientWrong)

end Rows
end Go.Proofs.Qxb6627383aFmt
