/-
  No cell of these rows narrows 'for every input' (looked for: loops, veiled, ifaces, maps, wideKeys, modest, calm, conditions, laid).
  DERIVED. THE GIVEN ROWS OF THIS SEAT. 1 by the template 'for every input the law returns true; each argument reads behind the call as it read before'; 0 by the template 'total and deterministic' (their statements: YbulkdsewFmtTotals.lean).
  GIVEN WITH THE SEED: the statements are not yours to turn. If you find one false, say at which input.
  Laid BY PROGRAM, IN A SANDBOX (cutbox-rows.mjs): the forced cells as the released guide's own fill.sh prints them over the translation a6b71e22e08e7782… (all of the seat's roots in one cut). By AI agents, Wed Nov 11 2026. No macro, syntax, notation, axiom, sorry.
-/
import Derived.Test.YbulkdsewFmtChecked
import GoSem.Claim
import GoSem.ClaimJoined
import GoSem.ClaimMapViews
import Derived.JoinedTies
import Derived.KernelRfl
namespace Go.Proofs.YbulkdsewFmt
/- THE CELL 'sum', in the pinned program and in every row, IS THE sha256 OF THE DUMP (.gsa) THAT YbulkdsewFmtProg.lean LOADS. Nothing in Lean hashes anything: it is a label: what it is worth is what the hold of that sum in a sandbox is worth. -/
noncomputable def Ybaf.pinned : Pinned := { name := "ybulkdsewfmt", sum := "a6b71e22e08e7782e515c331b86284959c0db2bd40f001542623cfe4eaa51028", checked := Ybaf.checked }
namespace Rows
def none {H : Type} : Left H := { results := [], args := [] }

/-- 'fund.LawS5950AWhole': WHATEVER THE INPUT: true; the input reads as it did. -/
def lawS5950AWholeSpec : ChangeSpec := { name := "lawS5950AWhole", fn := fun _ => fun
  | [d1, d2] => { results := [.lit (.bool true)], args := [d1, d2] }
  | _ => none }
def lawS5950AWholeRow : OpenClaim := { program := "ybulkdsewfmt", sum := "a6b71e22e08e7782e515c331b86284959c0db2bd40f001542623cfe4eaa51028", func := "example.com/tuoguan/tuoguan/internal/fund.LawS5950AWhole", spec := "lawS5950AWhole", stops := ["fmt.Sprintf"], inPlace := ["fmt.Sprintf"], unfollowed := true, recurses := true, apart := false }
/-- NO THEOREM (fmt's text is open here; it may be false): for the released tool's asking of the row's closed facts alone. THE STATEMENT IS 'LawS5950AWholeToldSaid' (YbulkdsewFmtCards.lean). -/
def LawS5950AWholeFormAsk : Prop := lawS5950AWholeRow.holds Ybaf.pinned (OpenSpec.ofChange lawS5950AWholeSpec)

/-- ITS FALSE NEIGHBOUR: 'it returns false'. Refute it at one input. -/
def lawS5950AWholeWrong : ChangeSpec := { name := "lawS5950AWhole", fn := fun _ => fun
  | [d1, d2] => { results := [.lit (.bool false)], args := [d1, d2] }
  | _ => none }
def LawS5950AWholeWrongFormAsk : Prop := lawS5950AWholeRow.holds Ybaf.pinned (OpenSpec.ofChange lawS5950AWholeWrong)

end Rows
end Go.Proofs.YbulkdsewFmt
