/-
  No cell of these rows narrows 'for every input' (looked for: loops, veiled, ifaces, maps, wideKeys, modest, calm, conditions, laid).
  DERIVED. THE GIVEN ROWS OF THIS SEAT. 1 by the template 'for every input the law returns true; each argument reads behind the call as it read before'; 0 by the template 'total and deterministic' (their statements: YbulkdsgmTotals.lean).
  GIVEN WITH THE SEED: the statements are not yours to turn. If you find one false, say at which input.
  Laid BY PROGRAM, IN A SANDBOX (cutbox-rows.mjs): the forced cells as the released guide's own fill.sh prints them over the translation 8693a14340d6d239… (all of the seat's roots in one cut). By AI agents, Wed Nov 11 2026. No macro, syntax, notation, axiom, sorry.
-/
import Derived.Test.YbulkdsgmChecked
import GoSem.Claim
import GoSem.ClaimJoined
import GoSem.ClaimMapViews
import Derived.JoinedTies
import Derived.KernelRfl
namespace Go.Proofs.Ybulkdsgm
/- THE CELL 'sum', in the pinned program and in every row, IS THE sha256 OF THE DUMP (.gsa) THAT YbulkdsgmProg.lean LOADS. Nothing in Lean hashes anything: it is a label: what it is worth is what the hold of that sum in a sandbox is worth. -/
noncomputable def Yba.pinned : Pinned := { name := "ybulkdsgm", sum := "8693a14340d6d23962a7a6fbc2b437f61e2ebc9a5b40aa373be2d0b87f7f2c4a", checked := Yba.checked }
namespace Rows
def none {H : Type} : Left H := { results := [], args := [] }

/-- 'node.LawS5953CWhole': WHATEVER THE INPUT: true; the input reads as it did. -/
def lawS5953CWholeSpec : ChangeSpec := { name := "lawS5953CWhole", fn := fun _ => fun
  | [d1, d2] => { results := [.lit (.bool true)], args := [d1, d2] }
  | _ => none }
def lawS5953CWholeRow : OpenClaim := { program := "ybulkdsgm", sum := "8693a14340d6d23962a7a6fbc2b437f61e2ebc9a5b40aa373be2d0b87f7f2c4a", func := "example.com/pathweave/pathweave/node.LawS5953CWhole", spec := "lawS5953CWhole", apart := false }
def LawS5953CWholeSaid : Prop := lawS5953CWholeRow.holds Yba.pinned (OpenSpec.ofChange lawS5953CWholeSpec)

/-- ITS FALSE NEIGHBOUR: 'it returns false'. Refute it at one input. -/
def lawS5953CWholeWrong : ChangeSpec := { name := "lawS5953CWhole", fn := fun _ => fun
  | [d1, d2] => { results := [.lit (.bool false)], args := [d1, d2] }
  | _ => none }
def LawS5953CWholeWrongFalsely : Prop := lawS5953CWholeRow.holds Yba.pinned (OpenSpec.ofChange lawS5953CWholeWrong)

end Rows
end Go.Proofs.Ybulkdsgm
