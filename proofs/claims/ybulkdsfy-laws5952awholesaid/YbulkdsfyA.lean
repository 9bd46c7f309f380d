/-
  LawS5952AWhole: the callees' contracts.
-/
import Derived.Test.YbulkdsfyRows
import Derived.WalkKit
import Derived.WalkSpells
import Derived.WalkLawsBesides
import Derived.Deep.QuietTactic
import Derived.BigQuiet
import Derived.Deep.DeepCutAuto
import Derived.Deep.RegionHeldLaw
namespace Go.Proofs.Ybulkdsfy
open Go.RowKit

structure Q where
  seq : Int
  sender : Int
  ss : Int
  sentIn : Int
  size : Int

theorem Yba.eqlNil28 (w : World) (a : Option Addr) (n c : Nat) : (binOp .eql 28 (.slice a n c) (.slice none 0 0)).run Yba.prog w = .ok (.bool a.isNone) w := by
  cases a <;> kernel_rfl

/-- The part of the plain data q lies in block g. -/
def PartAt (w : World) (g : Nat) (q : Q) : Prop :=
  g < w.heap.size ∧ w.cell? ⟨g, 0, none⟩ = some (.int .u64 q.seq) ∧ w.cell? ⟨g, 1, none⟩ = some (.int .i64 q.sender) ∧ w.cell? ⟨g, 2, none⟩ = some (.int .u64 q.ss) ∧ w.cell? ⟨g, 3, none⟩ = some (.slice none 0 0) ∧
  w.cell? ⟨g, 4, none⟩ = some (.pointer none) ∧ w.cell? ⟨g, 5, none⟩ = some (.int .u64 q.sentIn) ∧ w.cell? ⟨g, 6, none⟩ = some (.int .i64 q.size) ∧ w.cell? ⟨g, 7, none⟩ = some (.int .u32 0) ∧
  w.cell? ⟨g, 8, none⟩ = some (.int .i64 0) ∧ w.cell? ⟨g, 9, none⟩ = some (.int .u32 0)

attribute [local go_sem] Yba.eqlNil28
set_option maxRecDepth 20000 in
set_option maxHeartbeats 1000000 in
theorem same_any (q : Q) (g : Nat) (w : World) (h : PartAt w g q) :
    Calls Yba.prog 7 #[.pointer (some ⟨g, 0, none⟩), .agg #[.int .u64 q.seq, .int .i64 q.sender, .int .u64 q.ss, .int .u64 q.sentIn, .int .i64 q.size]] w fun e w' => e = .returned (.bool true) ∧
      ∃ n, w' = (w.alloc (.cells #[.int .u64 q.seq, .int .i64 q.sender, .int .u64 q.ss, .int .u64 q.sentIn, .int .i64 q.size] 26)).drewN n := by
  obtain ⟨hg, h0, h1, h2, h3, h4, h5, h6, h7, h8, h9⟩ := h
  obtain ⟨seq, sender, ss, sentIn, size⟩ := q
  simp only at *
  go_enter Yba.func7, Yba.ntmps7
  go_wp2
  go_quiet (fail)
  go_wp2
  go_ret
  exact ⟨rfl, _, rfl⟩
end Go.Proofs.Ybulkdsfy
