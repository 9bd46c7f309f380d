/-
  LawS5952CRoundTrip: the contract of Uint64.
-/
import Derived.Test.YbulkdsfyI
namespace Go.Proofs.Ybulkdsfy.Wire
open Go.RowKit

theorem cell_old {w : World} {g o : Nat} {v : Value} (ob : Obj) (h : w.cell? ⟨g, o, none⟩ = some v) : (w.alloc ob).cell? ⟨g, o, none⟩ = some v := by
  have hl := lt_of_cell h
  rw [World.cell?_alloc_past _ _ _ hl]; exact h

set_option maxRecDepth 100000 in
set_option maxHeartbeats 8000000 in
theorem read64_any (g o n c : Nat) (x : Int) (w : World) (hx0 : 0 ≤ x) (hx1 : x < 18446744073709551616) (hn : 8 ≤ n) (hc : ∀ i, (h : i < (be8 x).length) → w.cell? ⟨g, o + i, none⟩ = some (.int .u8 (be8 x)[i])) :
    Calls Yba.prog 13 #[.agg #[], .slice (some ⟨g, o, none⟩) n c] w fun e w' => e = .returned (.int .u64 x) ∧ ∃ d, w' = (w.alloc (.cells #[] 112)).drewN d := by
  have d0 := cell_old (.cells #[] 112) (hc 0 (by simp [be8]))
  have d1 := cell_old (.cells #[] 112) (hc 1 (by simp [be8]))
  have d2 := cell_old (.cells #[] 112) (hc 2 (by simp [be8]))
  have d3 := cell_old (.cells #[] 112) (hc 3 (by simp [be8]))
  have d4 := cell_old (.cells #[] 112) (hc 4 (by simp [be8]))
  have d5 := cell_old (.cells #[] 112) (hc 5 (by simp [be8]))
  have d6 := cell_old (.cells #[] 112) (hc 6 (by simp [be8]))
  have d7 := cell_old (.cells #[] 112) (hc 7 (by simp [be8]))
  clear hc
  simp only [be8, Nat.add_zero, List.getElem_cons_zero, List.getElem_cons_succ] at d0 d1 d2 d3 d4 d5 d6 d7
  obtain ⟨b0, e0⟩ : ∃ b, b = x / 72057594037927936 := ⟨_, rfl⟩
  obtain ⟨b1, e1⟩ : ∃ b, b = x / 281474976710656 % 256 := ⟨_, rfl⟩
  obtain ⟨b2, e2⟩ : ∃ b, b = x / 1099511627776 % 256 := ⟨_, rfl⟩
  obtain ⟨b3, e3⟩ : ∃ b, b = x / 4294967296 % 256 := ⟨_, rfl⟩
  obtain ⟨b4, e4⟩ : ∃ b, b = x / 16777216 % 256 := ⟨_, rfl⟩
  obtain ⟨b5, e5⟩ : ∃ b, b = x / 65536 % 256 := ⟨_, rfl⟩
  obtain ⟨b6, e6⟩ : ∃ b, b = x / 256 % 256 := ⟨_, rfl⟩
  obtain ⟨b7, e7⟩ : ∃ b, b = x % 256 := ⟨_, rfl⟩
  have HX : Hid (x = b7 + b6 * 256 + b5 * 65536 + b4 * 16777216 + b3 * 4294967296 + b2 * 1099511627776 + b1 * 281474976710656 + b0 * 72057594037927936) := by show x = _; omega
  rw [← e0] at d0
  rw [← e1] at d1
  rw [← e2] at d2
  rw [← e3] at d3
  rw [← e4] at d4
  rw [← e5] at d5
  rw [← e6] at d6
  rw [← e7] at d7
  have h0 : 0 ≤ b0 ∧ b0 < 256 := by omega
  have h1 : 0 ≤ b1 ∧ b1 < 256 := by omega
  have h2 : 0 ≤ b2 ∧ b2 < 256 := by omega
  have h3 : 0 ≤ b3 ∧ b3 < 256 := by omega
  have h4 : 0 ≤ b4 ∧ b4 < 256 := by omega
  have h5 : 0 ≤ b5 ∧ b5 < 256 := by omega
  have h6 : 0 ≤ b6 ∧ b6 < 256 := by omega
  have h7 : 0 ≤ b7 ∧ b7 < 256 := by omega
  clear e0 e1 e2 e3 e4 e5 e6 e7 hx0 hx1
  have q0 : 0 < n := by omega
  have q1 : (1 : Int) < (n : Int) := by omega
  have q2 : (2 : Int) < (n : Int) := by omega
  have q3 : (3 : Int) < (n : Int) := by omega
  have q4 : (4 : Int) < (n : Int) := by omega
  have q5 : (5 : Int) < (n : Int) := by omega
  have q6 : (6 : Int) < (n : Int) := by omega
  have q7 : (7 : Int) < (n : Int) := by omega
  go_enter Yba.func13, Yba.ntmps13
  go_wp2
  go_quiet (fail)
  go_wp2
  go_ret
  refine ⟨?_, _, rfl⟩
  simp (disch := omega) only [u64_or8, u64_or16, u64_or24, u64_or32, u64_or40, u64_or48, u64_or56]
  rw [HX.out]
  rfl

end Go.Proofs.Ybulkdsfy.Wire
