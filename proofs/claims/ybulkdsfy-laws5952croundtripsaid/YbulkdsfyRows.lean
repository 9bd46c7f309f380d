/-
  No cell of these rows narrows 'for every input' (looked for: loops, veiled, ifaces, maps, wideKeys, modest, calm, conditions, laid).
  DERIVED. THE GIVEN ROWS OF THIS SEAT. 3 by the template 'for every input the law returns true; each argument reads behind the call as it read before'; 0 by the template 'total and deterministic' (their statements: YbulkdsfyTotals.lean).
  GIVEN WITH THE SEED: the statements are not yours to turn. If you find one false, say at which input.
  Laid BY PROGRAM, IN A SANDBOX (cutbox-rows.mjs): the forced cells as the released guide's own fill.sh prints them over the translation 75f0f5f609451264… (all of the seat's roots in one cut). By AI agents, Wed Nov 11 2026. No macro, syntax, notation, axiom, sorry.
-/
import Derived.Test.YbulkdsfyChecked
import GoSem.Claim
import GoSem.ClaimJoined
import GoSem.ClaimMapViews
import Derived.JoinedTies
import Derived.KernelRfl
namespace Go.Proofs.Ybulkdsfy
/- THE CELL 'sum', in the pinned program and in every row, IS THE sha256 OF THE DUMP (.gsa) THAT YbulkdsfyProg.lean LOADS. Nothing in Lean hashes anything: it is a label: what it is worth is what the hold of that sum in a sandbox is worth. -/
noncomputable def Yba.pinned : Pinned := { name := "ybulkdsfy", sum := "75f0f5f6094512640a26e46fce3e4106498f7d614ae425f43a84e6666015c9b2", checked := Yba.checked }
namespace Rows
def none {H : Type} : Left H := { results := [], args := [] }

/-- 'protocol.LawS5952AWhole': WHATEVER THE INPUT: true; the input reads as it did. -/
def lawS5952AWholeSpec : ChangeSpec := { name := "lawS5952AWhole", fn := fun _ => fun
  | [d1, d2, d3, d4] => { results := [.lit (.bool true)], args := [d1, d2, d3, d4] }
  | _ => none }
def lawS5952AWholeRow : OpenClaim := { program := "ybulkdsfy", sum := "75f0f5f6094512640a26e46fce3e4106498f7d614ae425f43a84e6666015c9b2", func := "example.com/tutti/tutti/internal/protocol.LawS5952AWhole", spec := "lawS5952AWhole", plainKeys := false, apart := false }
def LawS5952AWholeSaid : Prop := lawS5952AWholeRow.holds Yba.pinned (OpenSpec.ofChange lawS5952AWholeSpec)

/-- ITS FALSE NEIGHBOUR: 'it returns false'. Refute it at one input. -/
def lawS5952AWholeWrong : ChangeSpec := { name := "lawS5952AWhole", fn := fun _ => fun
  | [d1, d2, d3, d4] => { results := [.lit (.bool false)], args := [d1, d2, d3, d4] }
  | _ => none }
def LawS5952AWholeWrongFalsely : Prop := lawS5952AWholeRow.holds Yba.pinned (OpenSpec.ofChange lawS5952AWholeWrong)

/-- 'protocol.LawS5952CWhole': WHATEVER THE INPUT: true; the input reads as it did. -/
def lawS5952CWholeSpec : ChangeSpec := { name := "lawS5952CWhole", fn := fun _ => fun
  | [d1, d2, d3, d4, d5] => { results := [.lit (.bool true)], args := [d1, d2, d3, d4, d5] }
  | _ => none }
def lawS5952CWholeRow : OpenClaim := { program := "ybulkdsfy", sum := "75f0f5f6094512640a26e46fce3e4106498f7d614ae425f43a84e6666015c9b2", func := "example.com/tutti/tutti/internal/protocol.LawS5952CWhole", spec := "lawS5952CWhole", named := ["encoding/binary.BigEndian"], plainKeys := false, apart := false }
def LawS5952CWholeSaid : Prop := lawS5952CWholeRow.holds Yba.pinned (OpenSpec.ofChange lawS5952CWholeSpec)

/-- ITS FALSE NEIGHBOUR: 'it returns false'. Refute it at one input. -/
def lawS5952CWholeWrong : ChangeSpec := { name := "lawS5952CWhole", fn := fun _ => fun
  | [d1, d2, d3, d4, d5] => { results := [.lit (.bool false)], args := [d1, d2, d3, d4, d5] }
  | _ => none }
def LawS5952CWholeWrongFalsely : Prop := lawS5952CWholeRow.holds Yba.pinned (OpenSpec.ofChange lawS5952CWholeWrong)

/-- 'protocol.LawS5952CRoundTrip': WHATEVER THE INPUT: true; the input reads as it did. -/
def lawS5952CRoundTripSpec : ChangeSpec := { name := "lawS5952CRoundTrip", fn := fun _ => fun
  | [d1, d2, d3, d4, d5, d6] => { results := [.lit (.bool true)], args := [d1, d2, d3, d4, d5, d6] }
  | _ => none }
def lawS5952CRoundTripRow : OpenClaim := { program := "ybulkdsfy", sum := "75f0f5f6094512640a26e46fce3e4106498f7d614ae425f43a84e6666015c9b2", func := "example.com/tutti/tutti/internal/protocol.LawS5952CRoundTrip", spec := "lawS5952CRoundTrip", named := ["encoding/binary.BigEndian"], plainKeys := false, apart := false }
def LawS5952CRoundTripSaid : Prop := lawS5952CRoundTripRow.holds Yba.pinned (OpenSpec.ofChange lawS5952CRoundTripSpec)

/-- ITS FALSE NEIGHBOUR: 'it returns false'. Refute it at one input. -/
def lawS5952CRoundTripWrong : ChangeSpec := { name := "lawS5952CRoundTrip", fn := fun _ => fun
  | [d1, d2, d3, d4, d5, d6] => { results := [.lit (.bool false)], args := [d1, d2, d3, d4, d5, d6] }
  | _ => none }
def LawS5952CRoundTripWrongFalsely : Prop := lawS5952CRoundTripRow.holds Yba.pinned (OpenSpec.ofChange lawS5952CRoundTripWrong)

end Rows
end Go.Proofs.Ybulkdsfy
