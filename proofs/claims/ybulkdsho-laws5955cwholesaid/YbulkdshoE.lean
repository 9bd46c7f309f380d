/-
  LawS5955CWhole: the walks.
-/
import Derived.Test.YbulkdshoRows
import Derived.WalkKit
import Derived.WalkSpells
import Derived.WalkLawsBesides
import Derived.Deep.QuietTactic
import Derived.BigQuiet
import Derived.Laws.StructEq
import Derived.ChangeKeysEq
namespace Go.Proofs.Ybulkdsho.Shell
open Go.RowKit

/-- The magnitude in wrapping arithmetic. -/
def mg (x : Int) : Int := if x < 0 then wrap64 (-x) else x

theorem abs_any (x : Int) (w : World) : Calls Yba.prog 9 #[.int .i64 x] w fun e w' => e = .returned (.int .i64 (mg x)) ∧ w' = w := by
  by_cases h : x < 0
  · go_enter Yba.func9, Yba.ntmps9
    go_wp2
    go_ret
    exact ⟨by unfold mg; rw [if_pos h]; rfl, rfl⟩
  · go_enter Yba.func9, Yba.ntmps9
    go_wp2
    go_ret
    exact ⟨by unfold mg; rw [if_neg (by omega)]; rfl, rfl⟩
theorem mag_any (x : Int) (w : World) : Calls Yba.prog 8 #[.int .i64 x] w fun e w' => e = .returned (.int .i64 (mg x)) ∧ w' = w := by
  by_cases h : x < 0
  · go_enter Yba.func8, Yba.ntmps8
    go_wp2
    go_ret
    exact ⟨by unfold mg; rw [if_pos h]; rfl, rfl⟩
  · go_enter Yba.func8, Yba.ntmps8
    go_wp2
    go_ret
    exact ⟨by unfold mg; rw [if_neg (by omega)]; rfl, rfl⟩

/-- The six numbers in the call's own two blocks. -/
def Six (B : Nat) (c0 c1 c2 p0 p1 p2 : Int) (w : World) : Prop :=
  w.cell? ⟨B, 0, none⟩ = some (.int .i64 c0) ∧ w.cell? ⟨B, 1, none⟩ = some (.int .i64 c1) ∧ w.cell? ⟨B, 2, none⟩ = some (.int .i64 c2) ∧ w.cell? ⟨B + 1, 0, none⟩ = some (.int .i64 p0) ∧ w.cell? ⟨B + 1, 1, none⟩ = some (.int .i64 p1) ∧ w.cell? ⟨B + 1, 2, none⟩ = some (.int .i64 p2)

def mx (z m : Int) : Int := if z < m then m else z
def upTo (m0 m1 m2 : Int) : Nat → Int
  | 0 => 0
  | 1 => mx 0 m0
  | 2 => mx (mx 0 m0) m1
  | _ => mx (mx (mx 0 m0) m1) m2

set_option maxHeartbeats 1000000 in
theorem shell_any (c0 c1 c2 p0 p1 p2 : Int) (w : World) :
    Calls Yba.prog 7 #[.agg #[.int .i64 c0, .int .i64 c1, .int .i64 c2], .agg #[.int .i64 p0, .int .i64 p1, .int .i64 p2]] w fun e w' =>
      e = .returned (.int .i64 (mx (mx (mx 0 (mg (wrap64 (c0 - p0)))) (mg (wrap64 (c1 - p1)))) (mg (wrap64 (c2 - p2))))) ∧ Below w.heap.size w w' := by
  go_enter Yba.func7, Yba.ntmps7
  go_wp2
  go_loopw [5, 7] (fun v i wr => ∃ k : Nat, k ≤ 3 ∧ i = .int .i64 k ∧ (∃ z : Int, v = .int .i64 z ∧ Hid (z = upTo (mg (wrap64 (c0 - p0))) (mg (wrap64 (c1 - p1))) (mg (wrap64 (c2 - p2))) k)) ∧ Six w.heap.size c0 c1 c2 p0 p1 p2 wr ∧ Below w.heap.size w wr) (fun _ i _ => 3 - (intOf i).toNat)
  case atStart => exact ⟨0, by omega, rfl, ⟨_, rfl, rfl⟩, ⟨by simp, by simp, by simp, by simp, by simp, by simp⟩, ((Below.refl _ _).alloc (Nat.le_refl _) _).alloc (by simp) _⟩
  case round =>
    obtain ⟨k, hk, rfl, ⟨z, rfl, HZ⟩, ⟨a0, a1, a2, b0, b1, b2⟩, hb⟩ := hrel
    by_cases hlt : k < 3
    · rcases (show k = 0 ∨ k = 1 ∨ k = 2 by omega) with rfl | rfl | rfl
      · go_wp2
        go_quiet ((go_at_call 9; exact Calls.quiet_of_same (abs_any _ _)))
        go_wp2
        go_roundw
        case rel => exact ⟨1, by omega, rfl, ⟨_, rfl, by show _ = mx 0 _; rw [HZ.out]; rfl⟩, ⟨a0, a1, a2, b0, b1, b2⟩, below_drewN hb _⟩
        case measure => simp [intOf]
      · go_wp2
        go_quiet ((go_at_call 9; exact Calls.quiet_of_same (abs_any _ _)))
        go_wp2
        go_roundw
        case rel => exact ⟨2, by omega, rfl, ⟨_, rfl, by show _ = mx (mx 0 _) _; rw [HZ.out]; rfl⟩, ⟨a0, a1, a2, b0, b1, b2⟩, below_drewN hb _⟩
        case measure => simp [intOf]
      · go_wp2
        go_quiet ((go_at_call 9; exact Calls.quiet_of_same (abs_any _ _)))
        go_wp2
        go_roundw
        case rel => exact ⟨3, by omega, rfl, ⟨_, rfl, by show _ = mx (mx (mx 0 _) _) _; rw [HZ.out]; rfl⟩, ⟨a0, a1, a2, b0, b1, b2⟩, below_drewN hb _⟩
        case measure => simp [intOf]
    · obtain rfl : k = 3 := by omega
      go_wp2
      go_ret
      exact ⟨by rw [HZ.out]; rfl, hb⟩

theorem part_at (w : World) (xs : Array Value) (i : Nat) (v : Value) (h : xs[i]? = some v) : (part 3 xs i).run Yba.prog w = .ok v w := by
  simp [part, isAgg, run_underlying Yba.underlying3, h]
theorem equalIn_one (w : World) (d : Nat) (a : Int) : (Op.equalIn (d + 1) 3 (.int .i64 a) (.int .i64 a)).run Yba.prog w = .ok true w := by
  simp [Op.equalIn, run_underlying Yba.underlying3]
theorem equalIn_arr (w : World) (d : Nat) (a b c : Int) : (Op.equalIn (d + 2) 34 (.agg #[.int .i64 a, .int .i64 b, .int .i64 c]) (.agg #[.int .i64 a, .int .i64 b, .int .i64 c])).run Yba.prog w = .ok true w := by
  have h : (Yba.prog.info? 3).map (fun i => i.size) = some 1 := by kernel_rfl
  obtain ⟨i, hi, hz⟩ := Option.map_eq_some_iff.1 h
  have hc : Yba.prog.cellsOf 3 = 1 := by kernel_rfl
  have p0 : ∀ W, (part 3 #[.int .i64 a, .int .i64 b, .int .i64 c] 0).run Yba.prog W = .ok (.int .i64 a) W := fun W => part_at W _ 0 _ rfl
  have p1 : ∀ W, (part 3 #[.int .i64 a, .int .i64 b, .int .i64 c] 1).run Yba.prog W = .ok (.int .i64 b) W := fun W => part_at W _ 1 _ rfl
  have p2 : ∀ W, (part 3 #[.int .i64 a, .int .i64 b, .int .i64 c] 2).run Yba.prog W = .ok (.int .i64 c) W := fun W => part_at W _ 2 _ rfl
  rw [run_equalIn_array w (d + 1) _ _ Yba.underlying34 hi, hc, show List.range 3 = [0, 1, 2] from rfl]
  simp [Op.eqItems, p0, p1, p2, equalIn_one]
theorem arrSame (w : World) (a b c : Int) : (binOp .eql 34 (.agg #[.int .i64 a, .int .i64 b, .int .i64 c]) (.agg #[.int .i64 a, .int .i64 b, .int .i64 c])).run Yba.prog w = .ok (.bool true) w := by
  rw [run_eql_struct, equalIn_arr w 9998]
  rfl
theorem equalIn_arr' (w : World) (a b c : Int) : (Op.equalIn 10000 34 (.agg #[.int .i64 a, .int .i64 b, .int .i64 c]) (.agg #[.int .i64 a, .int .i64 b, .int .i64 c])).run Yba.prog w = .ok true w := equalIn_arr w 9998 a b c
theorem mag_eq (x X : Int) (h : X = mg x) (w : World) : Calls Yba.prog 8 #[.int .i64 x] w fun e w' => e = .returned (.int .i64 X) ∧ w' = w := by
  subst h; exact mag_any x w
theorem lt_of_cell {w : World} {a : Addr} {v : Value} (h : w.cell? a = some v) : a.block < w.heap.size := by
  rcases Nat.lt_or_ge a.block w.heap.size with h' | h'
  · exact h'
  · simp [World.cell?, Array.getElem?_eq_none h'] at h
theorem Six.keep {B : Nat} {c0 c1 c2 p0 p1 p2 : Int} {w w' : World} (h : Six B c0 c1 c2 p0 p1 p2 w) (hb : Below w.heap.size w w') : Six B c0 c1 c2 p0 p1 p2 w' := by
  obtain ⟨h0, h1, h2, h3, h4, h5⟩ := h
  exact ⟨(hb.cell (lt_of_cell h0)).trans h0, (hb.cell (lt_of_cell h1)).trans h1, (hb.cell (lt_of_cell h2)).trans h2, (hb.cell (lt_of_cell h3)).trans h3, (hb.cell (lt_of_cell h4)).trans h4, (hb.cell (lt_of_cell h5)).trans h5⟩

attribute [local go_sem] equalIn_arr' arrSame
set_option maxHeartbeats 2000000 in
theorem law_main (c0 c1 c2 p0 p1 p2 : Int) (w : World) :
    Calls Yba.prog 4 #[.agg #[.int .i64 c0, .int .i64 c1, .int .i64 c2], .agg #[.int .i64 p0, .int .i64 p1, .int .i64 p2]] w fun e w' => e = .returned (.bool true) ∧ Below w.heap.size w w' := by
  go_enter Yba.func4, Yba.ntmps4
  obtain ⟨X, hX⟩ : ∃ X, X = mg (wrap64 (c0 - p0)) := ⟨_, rfl⟩
  obtain ⟨Y, hY⟩ : ∃ Y, Y = mg (wrap64 (c1 - p1)) := ⟨_, rfl⟩
  obtain ⟨Z, hZ⟩ : ∃ Z, Z = mg (wrap64 (c2 - p2)) := ⟨_, rfl⟩
  have hsh := shell_any c0 c1 c2 p0 p1 p2 ((((w.alloc (.cells #[.int .i64 c0, .int .i64 c1, .int .i64 c2] 34)).alloc (.cells #[.int .i64 p0, .int .i64 p1, .int .i64 p2] 34)).alloc (.cells #[.int .i64 c0, .int .i64 c1, .int .i64 c2] 34)).alloc (.cells #[.int .i64 p0, .int .i64 p1, .int .i64 p2] 34))
  rw [← hX, ← hY, ← hZ] at hsh
  obtain ⟨G, hG⟩ : ∃ G, G = mx (mx (mx 0 X) Y) Z := ⟨_, rfl⟩
  rw [← hG] at hsh
  have HX : Hid (X = mg (wrap64 (c0 - p0))) := hX
  have HY : Hid (Y = mg (wrap64 (c1 - p1))) := hY
  have HZ : Hid (Z = mg (wrap64 (c2 - p2))) := hZ
  have HG : Hid (G = mx (mx (mx 0 X) Y) Z) := hG
  clear hX hY hZ hG
  have s0 : Six w.heap.size c0 c1 c2 p0 p1 p2 ((((w.alloc (.cells #[.int .i64 c0, .int .i64 c1, .int .i64 c2] 34)).alloc (.cells #[.int .i64 p0, .int .i64 p1, .int .i64 p2] 34)).alloc (.cells #[.int .i64 c0, .int .i64 c1, .int .i64 c2] 34)).alloc (.cells #[.int .i64 p0, .int .i64 p1, .int .i64 p2] 34)) := by
    refine ⟨?_, ?_, ?_, ?_, ?_, ?_⟩ <;> (rw [World.cell?_alloc_past _ _ _ (by simp <;> omega), World.cell?_alloc_past _ _ _ (by simp <;> omega)]; simp)
  have s1 : Six (w.heap.size + 1 + 1) c0 c1 c2 p0 p1 p2 ((((w.alloc (.cells #[.int .i64 c0, .int .i64 c1, .int .i64 c2] 34)).alloc (.cells #[.int .i64 p0, .int .i64 p1, .int .i64 p2] 34)).alloc (.cells #[.int .i64 c0, .int .i64 c1, .int .i64 c2] 34)).alloc (.cells #[.int .i64 p0, .int .i64 p1, .int .i64 p2] 34)) := by
    refine ⟨?_, ?_, ?_, ?_, ?_, ?_⟩ <;> go_simp
  have hb0 := ((((Below.refl w.heap.size w).alloc (Nat.le_refl _) (.cells #[.int .i64 c0, .int .i64 c1, .int .i64 c2] 34)).alloc (by simp) (.cells #[.int .i64 p0, .int .i64 p1, .int .i64 p2] 34)).alloc (by simp <;> omega) (.cells #[.int .i64 c0, .int .i64 c1, .int .i64 c2] 34)).alloc (by simp <;> omega) (.cells #[.int .i64 p0, .int .i64 p1, .int .i64 p2] 34)
  go_wp2_with fail
  generalize ((((w.alloc (.cells #[.int .i64 c0, .int .i64 c1, .int .i64 c2] 34)).alloc (.cells #[.int .i64 p0, .int .i64 p1, .int .i64 p2] 34)).alloc (.cells #[.int .i64 c0, .int .i64 c1, .int .i64 c2] 34)).alloc (.cells #[.int .i64 p0, .int .i64 p1, .int .i64 p2] 34)) = W at *
  refine hsh.mono ?_
  rintro e w1 ⟨rfl, hb1⟩
  have hbw := hb0.trans (hb1.mono hb0.size)
  obtain ⟨a0, a1, a2, b0, b1, b2⟩ := s0.keep hb1
  obtain ⟨d0, d1, d2, e0, e1, e2⟩ := s1.keep hb1
  clear s0 s1 hsh hb0 hb1
  go_wp2_with fail
  refine (mag_eq _ X HX.out _).mono ?_
  rintro e w' ⟨rfl, rfl⟩
  go_wp2_with fail
  refine (mag_eq _ Y HY.out _).mono ?_
  rintro e w' ⟨rfl, rfl⟩
  go_wp2_with fail
  refine (mag_eq _ Z HZ.out _).mono ?_
  rintro e w' ⟨rfl, rfl⟩
  go_wp2
  all_goals first
    | (exfalso; have hg := HG.out; unfold mx at hg; (repeat' split at hg) <;> omega)
    | (go_ret; exact ⟨rfl, hbw⟩)
end Go.Proofs.Ybulkdsho.Shell
