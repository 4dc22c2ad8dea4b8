/-
  DERIVED. GIVEN WITH THE SEED: THE CARDS: each row of Qxb6627383aFmtRows.lean that lists a variable, with what it lists TIED to the program's text (the seventh form; the later family's looks); each row that meets fmt, with fmt's text TOLD by the authors' own Lean function (tested against real Go, not proved from fmt's source: count such statements apart). THE CARD IS WHAT COUNTS. Prove the row's statement (the work); the ties are given (Qxb6627383aFmtTie.lean); close each card by the builder's one call (the guide's Derived/Test/ToyasCard.lean, 'card_holds'). Laid BY PROGRAM, IN A SANDBOX (cutbox-door.mjs). By AI agents, Wed Nov 11 2026. No macro, syntax, notation, axiom, sorry.
-/
import Derived.Test.Qxb6627383aFmtRows
import GoSem.ClaimSeven
namespace Go.Proofs.Qxb6627383aFmt
namespace Rows

/-- THE TOLD CARD OF 'zzlaws_internal_benchtest_b1.FnCheckAcceptsOnlyTheQuotient'. -/
def fnCheckAcceptsOnlyTheQuotientCard : Claim7 := { stood := { row := fnCheckAcceptsOnlyTheQuotientRow, standIns := [], harness := (true, "8253f6182f4678346edb268df429998b76b64c5d621f2060a7671918cc073347"), looks := false }, told := true, goes := false }
def FnCheckAcceptsOnlyTheQuotientToldSaid : Prop := Claim7.holds Tryf.pinned (.plain (OpenSpec.ofChange fnCheckAcceptsOnlyTheQuotientSpec)) fnCheckAcceptsOnlyTheQuotientCard
/-- ITS FALSE NEIGHBOUR. Refute it at one input. -/
def FnCheckAcceptsOnlyTheQuotientToldWrongFalsely : Prop := Claim7.holds Tryf.pinned (.plain (OpenSpec.ofChange fnCheckAcceptsOnlyTheQuotientWrong)) fnCheckAcceptsOnlyTheQuotientCard
end Rows
end Go.Proofs.Qxb6627383aFmt
