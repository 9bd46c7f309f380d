/-
  The closed facts on fmt.Sprintf's stop at this dump, and the contracts of the two library functions over a slice of strings.
-/
import Derived.Test.YbulkdsewFmtRows
import Derived.WalkKit
import Derived.WalkSpells
import Derived.Stop.CallBack
import Derived.Stop.IfaceNil
import Derived.Deep.QuietTactic
import Derived.BigQuiet
import GoSem.ClaimData
namespace Go.Proofs.YbulkdsewFmt
open Go.RowKit Go.Extern.Stop Go.Stop Go.Extern

theorem Ybaf.call6 (args : Array Value) (w : World) : (callFunc 6 args).run Ybaf.prog w = ((FmtStop.sprintf #[9, 86] #[9] args).run Ybaf.prog w).andThen fun v w' => .ok (.value v) w' :=
  run_callFunc_extern Ybaf.func6 (by kernel_rfl) (by kernel_rfl) (by kernel_rfl) (by kernel_rfl) args w
theorem Ybaf.guard (name : String) (w : World) : (FmtStop.guard name).run Ybaf.prog w = .ok () w := by kernel_rfl
-- the first format
theorem Ybaf.fmt0 : FmtStop.printed? ⟨#[116, 104, 101, 32, 112, 114, 111, 102, 105, 108, 101, 39, 115, 32, 99, 108, 97, 115, 115, 32, 37, 113, 32, 105, 115, 32, 109, 105, 115, 115, 105, 110, 103]⟩ 1 = some [(0, 113, false)] := by kernel_rfl
theorem Ybaf.fmt0r (w : World) : (FmtDoors.printed ⟨#[116, 104, 101, 32, 112, 114, 111, 102, 105, 108, 101, 39, 115, 32, 99, 108, 97, 115, 115, 32, 37, 113, 32, 105, 115, 32, 109, 105, 115, 115, 105, 110, 103]⟩ 1).run Ybaf.prog w = .ok [(0, 113, false)] w := by kernel_rfl
-- the second format
theorem Ybaf.fmt1 : FmtStop.printed? ⟨#[37, 113, 32, 105, 115, 32, 110, 111, 116, 32, 97, 32, 99, 108, 97, 115, 115, 32, 111, 102, 32, 116, 104, 101, 32, 112, 114, 111, 102, 105, 108, 101]⟩ 1 = some [(0, 113, false)] := by kernel_rfl
theorem Ybaf.fmt1r (w : World) : (FmtDoors.printed ⟨#[37, 113, 32, 105, 115, 32, 110, 111, 116, 32, 97, 32, 99, 108, 97, 115, 115, 32, 111, 102, 32, 116, 104, 101, 32, 112, 114, 111, 102, 105, 108, 101]⟩ 1).run Ybaf.prog w = .ok [(0, 113, false)] w := by kernel_rfl
def Ybaf.shape9 : List UInt8 := [12, 6, 0, 0, 0, 0, 0, 0, 0, 115, 116, 114, 105, 110, 103]
theorem Ybaf.op9_113 (name : String) (x : ByteArray) (w : World) : (FmtStop.operand name false 113 false (.iface 9 (.string x))).run Ybaf.prog w = .ok (Ybaf.shape9, FmtStop.pack x.data.toList) w := by kernel_rfl

attribute [local go_sem] Ybaf.call6 Ybaf.guard Ybaf.fmt0 Ybaf.fmt0r Ybaf.fmt1 Ybaf.fmt1r Ybaf.op9_113

/-- THE SLICE OF STRINGS AT 'a' READS AS 'ss' IN THE WORLD: there is no element, or its elements' cells, all of blocks below B, hold them. -/
def SRow (B : Nat) (w : World) (a : Option Addr) (ss : List ByteArray) : Prop :=
  ss = [] ∨ ∃ b off, a = some ⟨b, off, none⟩ ∧ b < B ∧ ∀ i, (h : i < ss.length) → w.cell? ⟨b, off + i, none⟩ = some (.string ss[i])

theorem mem_take_succ {x : ByteArray} {ss : List ByteArray} {k : Nat} (h : k < ss.length) : x ∈ ss.take (k + 1) ↔ x ∈ ss.take k ∨ x = ss[k] := by
  rw [List.take_succ_eq_append_getElem h, List.mem_append, List.mem_singleton]

theorem str_eq {x y : ByteArray} (h : (x.toList == y.toList) = true) : x = y := by
  have h' := eq_of_beq h
  rw [ByteArray.toList_eq, ByteArray.toList_eq] at h'
  exact Go.WideShapes.bytes_inj h'
theorem str_ne {x y : ByteArray} (h : (x.toList == y.toList) = false) : x ≠ y := by
  intro e; subst e; simp at h

set_option maxHeartbeats 400000 in
theorem index_any (B : Nat) (ss : List ByteArray) (x : ByteArray) (a : Option Addr) (cap : Nat) (w : World) (hl : ss.length ≤ 1024) (hr : SRow B w a ss) :
    Calls Ybaf.prog 8 #[.slice a ss.length cap, .string x] w fun e w' => (∃ n : Int, e = .returned (.int .i64 n) ∧ (0 ≤ n ↔ x ∈ ss)) ∧ w' = w := by
  go_enter Ybaf.func8, Ybaf.ntmps8
  go_wp2
  go_loop [8] (fun i => ∃ k : Nat, k ≤ ss.length ∧ i = .int .i64 k ∧ x ∉ ss.take k) (fun i => ss.length - (intOf i).toNat)
  case atStart => exact ⟨0, by omega, rfl, by simp⟩
  case round =>
    obtain ⟨k, hk, rfl, hn⟩ := hrel
    by_cases hlt : k < ss.length
    · rcases hr with hr | ⟨b, off, rfl, hb, hc⟩
      · subst hr; simp at hlt
      have h1 := hc k hlt
      clear hc
      go_wp2
      · go_ret
        have he : (x.toList == ss[k].toList) = true := by assumption
        exact ⟨⟨_, rfl, by rw [str_eq he]; simp⟩, rfl⟩
      · go_round
        case rel =>
          have he : (x.toList == ss[k].toList) = false := by assumption
          exact ⟨k + 1, by omega, by go_num, by rw [mem_take_succ hlt]; rintro (h | h); exact hn h; exact str_ne he h⟩
        case measure => simp [intOf]; omega
    · go_wp2
      go_ret
      have : ss.take k = ss := List.take_of_length_le (by omega)
      rw [this] at hn
      exact ⟨⟨_, rfl, by simp [hn]⟩, rfl⟩

set_option maxHeartbeats 400000 in
theorem contains_any (B : Nat) (ss : List ByteArray) (x : ByteArray) (a : Option Addr) (cap : Nat) (w : World) (hl : ss.length ≤ 1024) (hr : SRow B w a ss) :
    Calls Ybaf.prog 5 #[.slice a ss.length cap, .string x] w fun e w' => (∃ r : Bool, e = .returned (.bool r) ∧ (r = true ↔ x ∈ ss)) ∧ w' = w := by
  go_enter Ybaf.func5, Ybaf.ntmps5
  go_wp2_with (go_at_call 8; refine (index_any B ss x a cap _ hl hr).mono ?_; rintro e w' ⟨⟨n, rfl, hn⟩, rfl⟩)
  go_ret
  exact ⟨⟨_, rfl, by rw [← hn]; simp⟩, rfl⟩

set_option maxHeartbeats 400000 in
theorem same_any (nm x : ByteArray) (fees : Value) (g : Nat) (w : World) (hg : g < w.heap.size) (hc : w.cell? ⟨g, 0, none⟩ = some (.string x)) :
    Calls Ybaf.prog 10 #[.agg #[.string nm, fees], .pointer (some ⟨g, 0, none⟩)] w fun e w' => e = .returned (.bool (nm.toList == x.toList)) ∧ w' = w.alloc (.cells #[.string nm, fees] 38) := by
  go_enter Ybaf.func10, Ybaf.ntmps10
  go_wp2
  go_ret
  exact ⟨rfl, rfl⟩
end Go.Proofs.YbulkdsewFmt
