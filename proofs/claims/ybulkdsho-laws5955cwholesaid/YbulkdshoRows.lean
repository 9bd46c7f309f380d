/-
  No cell of these rows narrows 'for every input' (looked for: loops, veiled, ifaces, maps, wideKeys, modest, calm, conditions, laid).
  DERIVED. THE GIVEN ROWS OF THIS SEAT. 2 by the template 'for every input the law returns true; each argument reads behind the call as it read before'; 0 by the template 'total and deterministic' (their statements: YbulkdshoTotals.lean).
  GIVEN WITH THE SEED: the statements are not yours to turn. If you find one false, say at which input.
  Laid BY PROGRAM, IN A SANDBOX (cutbox-rows.mjs): the forced cells as the released guide's own fill.sh prints them over the translation 97fc7bf9116d6215… (all of the seat's roots in one cut). By AI agents, Wed Nov 11 2026. No macro, syntax, notation, axiom, sorry.
-/
import Derived.Test.YbulkdshoChecked
import GoSem.Claim
import GoSem.ClaimJoined
import GoSem.ClaimMapViews
import Derived.JoinedTies
import Derived.KernelRfl
namespace Go.Proofs.Ybulkdsho
/- THE CELL 'sum', in the pinned program and in every row, IS THE sha256 OF THE DUMP (.gsa) THAT YbulkdshoProg.lean LOADS. Nothing in Lean hashes anything: it is a label: what it is worth is what the hold of that sum in a sandbox is worth. -/
noncomputable def Yba.pinned : Pinned := { name := "ybulkdsho", sum := "97fc7bf9116d62151b759a730e2ed45397e9957043ad0d5d7da76981b3fefb4b", checked := Yba.checked }
namespace Rows
def none {H : Type} : Left H := { results := [], args := [] }

/-- 'workload.LawS5955AWhole': WHATEVER THE INPUT: true; the input reads as it did. -/
def lawS5955AWholeSpec : ChangeSpec := { name := "lawS5955AWhole", fn := fun _ => fun
  | [d1, d2, d3] => { results := [.lit (.bool true)], args := [d1, d2, d3] }
  | _ => none }
def lawS5955AWholeRow : OpenClaim := { program := "ybulkdsho", sum := "97fc7bf9116d62151b759a730e2ed45397e9957043ad0d5d7da76981b3fefb4b", func := "example.com/meshwright/meshwright/workload.LawS5955AWhole", spec := "lawS5955AWhole", apart := false }
def LawS5955AWholeSaid : Prop := lawS5955AWholeRow.holds Yba.pinned (OpenSpec.ofChange lawS5955AWholeSpec)

/-- ITS FALSE NEIGHBOUR: 'it returns false'. Refute it at one input. -/
def lawS5955AWholeWrong : ChangeSpec := { name := "lawS5955AWhole", fn := fun _ => fun
  | [d1, d2, d3] => { results := [.lit (.bool false)], args := [d1, d2, d3] }
  | _ => none }
def LawS5955AWholeWrongFalsely : Prop := lawS5955AWholeRow.holds Yba.pinned (OpenSpec.ofChange lawS5955AWholeWrong)

/-- 'mc1x1.LawS5955CWhole': WHATEVER THE INPUT: true; the input reads as it did. -/
def lawS5955CWholeSpec : ChangeSpec := { name := "lawS5955CWhole", fn := fun _ => fun
  | [d1, d2] => { results := [.lit (.bool true)], args := [d1, d2] }
  | _ => none }
def lawS5955CWholeRow : OpenClaim := { program := "ybulkdsho", sum := "97fc7bf9116d62151b759a730e2ed45397e9957043ad0d5d7da76981b3fefb4b", func := "example.com/meshwright/meshwright/mc1x1.LawS5955CWhole", spec := "lawS5955CWhole", apart := false }
def LawS5955CWholeSaid : Prop := lawS5955CWholeRow.holds Yba.pinned (OpenSpec.ofChange lawS5955CWholeSpec)

/-- ITS FALSE NEIGHBOUR: 'it returns false'. Refute it at one input. -/
def lawS5955CWholeWrong : ChangeSpec := { name := "lawS5955CWhole", fn := fun _ => fun
  | [d1, d2] => { results := [.lit (.bool false)], args := [d1, d2] }
  | _ => none }
def LawS5955CWholeWrongFalsely : Prop := lawS5955CWholeRow.holds Yba.pinned (OpenSpec.ofChange lawS5955CWholeWrong)

end Rows
end Go.Proofs.Ybulkdsho
