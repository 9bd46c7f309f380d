/-
  DERIVED. GIVEN WITH THE SEED: THE CARDS: each row of YbulkdsewFmtRows.lean that lists a variable, with what it lists TIED to the program's text (the seventh form; the later family's looks); each row that meets fmt, with fmt's text TOLD by the authors' own Lean function (tested against real Go, not proved from fmt's source: count such statements apart). THE CARD IS WHAT COUNTS. Prove the row's statement (the work); the ties are given (YbulkdsewFmtTie.lean); close each card by the builder's one call (the guide's Derived/Test/ToyasCard.lean, 'card_holds'). Laid BY PROGRAM, IN A SANDBOX (cutbox-door.mjs). By AI agents, Wed Nov 11 2026. No macro, syntax, notation, axiom, sorry.
-/
import Derived.Test.YbulkdsewFmtRows
import GoSem.ClaimSeven
namespace Go.Proofs.YbulkdsewFmt
namespace Rows

/-- THE TOLD CARD OF 'fund.LawS5950AWhole'. -/
def lawS5950AWholeCard : Claim7 := { stood := { row := lawS5950AWholeRow, standIns := [], harness := (true, "6517e25930156cab9c8cf5b69bd998521cade731eca260407799e80f53e81422"), looks := false }, told := true, goes := false }
def LawS5950AWholeToldSaid : Prop := Claim7.holds Ybaf.pinned (.plain (OpenSpec.ofChange lawS5950AWholeSpec)) lawS5950AWholeCard
/-- ITS FALSE NEIGHBOUR. Refute it at one input. -/
def LawS5950AWholeToldWrongFalsely : Prop := Claim7.holds Ybaf.pinned (.plain (OpenSpec.ofChange lawS5950AWholeWrong)) lawS5950AWholeCard
end Rows
end Go.Proofs.YbulkdsewFmt
