/-
  LawS5952CRoundTrip: the contract of readMessageFields.
-/
import Derived.Test.YbulkdsfyK
import Derived.Deep.RegionHeld3
import Derived.Deep.DeepCutAuto
namespace Go.Proofs.Ybulkdsfy.Wire
open Go.RowKit

/-- The bytes of a slice from place o on. -/
def Bytes (w : World) (g o : Nat) (l : List Int) : Prop := ∀ i, (h : i < l.length) → w.cell? ⟨g, o + i, none⟩ = some (.int .u8 l[i])
theorem Bytes.keep {w w' : World} {g o : Nat} {l : List Int} (h : Bytes w g o l) (hb : Below w.heap.size w w') : Bytes w' g o l :=
  fun i hi => (hb.cell (lt_of_cell (h i hi))).trans (h i hi)

theorem setCell_block {w : World} {B i : Nat} {c : Array Value} {t : TypeId} {fr : Nat × Nat} {v : Value} (h : w.heap[B]? = some (.cells c t fr)) : (w.setCell ⟨B, i, none⟩ v).heap[B]? = some (.cells (c.setIfInBounds i v) t fr) := by
  simp [World.setCell, Array.getElem?_modify, h]
theorem cell_of_block {w : World} {B i : Nat} {c : Array Value} {t : TypeId} {fr : Nat × Nat} (h : w.heap[B]? = some (.cells c t fr)) : w.cell? ⟨B, i, none⟩ = c[i]? := by
  simp [World.cell?, h]
theorem free_of_block {w : World} {B i : Nat} {c : Array Value} {t : TypeId} (h : w.heap[B]? = some (.cells c t (0, 0))) : w.frozen? ⟨B, i, none⟩ = false := by
  simp [World.frozen?, h]
theorem filled (w : World) (d1 d2 : Nat) (v0 v1 v2 v3 v4 v5 : Value) (A : Array Value) (E : Obj) (hA : A.size = 6) :
    ((((((((((((w.alloc (.cells A 31)).alloc E).drewN d1).alloc E).drewN d2).setCell ⟨w.heap.size, 0, none⟩ v0).setCell ⟨w.heap.size, 1, none⟩ v1).setCell ⟨w.heap.size, 2, none⟩ v2).setCell ⟨w.heap.size, 3, none⟩ v3).setCell ⟨w.heap.size, 4, none⟩ v4).setCell ⟨w.heap.size, 5, none⟩ v5)).heap[w.heap.size]? = some (.cells #[v0, v1, v2, v3, v4, v5] 31 (0, 0)) ∧
    Below w.heap.size w ((((((((((((w.alloc (.cells A 31)).alloc E).drewN d1).alloc E).drewN d2).setCell ⟨w.heap.size, 0, none⟩ v0).setCell ⟨w.heap.size, 1, none⟩ v1).setCell ⟨w.heap.size, 2, none⟩ v2).setCell ⟨w.heap.size, 3, none⟩ v3).setCell ⟨w.heap.size, 4, none⟩ v4).setCell ⟨w.heap.size, 5, none⟩ v5)) := by
  have b0 : ((((w.alloc (.cells A 31)).alloc E).drewN d1).alloc E).drewN d2 |>.heap[w.heap.size]? = some (.cells A 31 (0, 0)) := by
    show ((((w.alloc (.cells A 31)).alloc E).drewN d1).alloc E).heap[w.heap.size]? = _
    rw [Below.heap_alloc _ _ _ (by show _ < ((w.alloc (.cells A 31)).alloc E).heap.size; simp; omega)]
    show ((w.alloc (.cells A 31)).alloc E).heap[w.heap.size]? = _
    rw [Below.heap_alloc _ _ _ (by simp)]
    show (w.heap.push _)[w.heap.size]? = _
    simp
  have c1 := ((Below.refl w.heap.size w).alloc (Nat.le_refl _) (.cells A 31)).alloc (by simp) E
  have c2 := below_drewN c1 d1
  have c3 := c2.alloc (by show _ ≤ ((w.alloc (.cells A 31)).alloc E).heap.size; simp; omega) E
  have c4 := below_drewN c3 d2
  generalize ((((w.alloc (.cells A 31)).alloc E).drewN d1).alloc E).drewN d2 = Y at *
  refine ⟨?_, (((((c4.setCell (p := ⟨w.heap.size, 0, none⟩) (Nat.le_refl w.heap.size) v0).setCell (p := ⟨w.heap.size, 1, none⟩) (Nat.le_refl w.heap.size) v1).setCell (p := ⟨w.heap.size, 2, none⟩) (Nat.le_refl w.heap.size) v2).setCell (p := ⟨w.heap.size, 3, none⟩) (Nat.le_refl w.heap.size) v3).setCell (p := ⟨w.heap.size, 4, none⟩) (Nat.le_refl w.heap.size) v4).setCell (p := ⟨w.heap.size, 5, none⟩) (Nat.le_refl w.heap.size) v5⟩
  rw [setCell_block (setCell_block (setCell_block (setCell_block (setCell_block (setCell_block b0)))))]
  obtain ⟨l⟩ := A
  match l, hA with
  | [a0, a1, a2, a3, a4, a5], _ => rfl

theorem six_of_block {w : World} {B : Nat} {t : TypeId} {fr : Nat × Nat} {v0 v1 v2 v3 v4 v5 : Value} (h : w.heap[B]? = some (.cells #[v0, v1, v2, v3, v4, v5] t fr)) :
    w.cell? ⟨B, 0, none⟩ = some v0 ∧ w.cell? ⟨B, 1, none⟩ = some v1 ∧ w.cell? ⟨B, 2, none⟩ = some v2 ∧ w.cell? ⟨B, 3, none⟩ = some v3 ∧ w.cell? ⟨B, 4, none⟩ = some v4 ∧ w.cell? ⟨B, 5, none⟩ = some v5 := by
  refine ⟨?_, ?_, ?_, ?_, ?_, ?_⟩ <;> rw [cell_of_block h] <;> rfl
theorem refilled {wc : World} {B d : Nat} {E : Obj} {v0 v1 v2 v3 v4 v5 : Value} (hB : B < wc.heap.size) (h : wc.heap[B]? = some (.cells #[v0, v1, v2, v3, v4, v5] 31 (0, 0))) :
    ((((((((wc.alloc E).drewN d).setCell ⟨B, 0, none⟩ v0).setCell ⟨B, 1, none⟩ v1).setCell ⟨B, 2, none⟩ v2).setCell ⟨B, 3, none⟩ v3).setCell ⟨B, 4, none⟩ v4).setCell ⟨B, 5, none⟩ v5).heap[B]? = some (.cells #[v0, v1, v2, v3, v4, v5] 31 (0, 0)) := by
  have b0 : ((wc.alloc E).drewN d).heap[B]? = some (.cells #[v0, v1, v2, v3, v4, v5] 31 (0, 0)) := by
    show (wc.alloc E).heap[B]? = _
    rw [Below.heap_alloc _ _ _ hB]; exact h
  rw [setCell_block (setCell_block (setCell_block (setCell_block (setCell_block (setCell_block b0)))))]
  rfl
theorem refilled_below {w wc : World} {d : Nat} {E : Obj} {v0 v1 v2 v3 v4 v5 : Value} (hb : Below w.heap.size w wc) :
    Below w.heap.size w ((((((((wc.alloc E).drewN d).setCell ⟨w.heap.size, 0, none⟩ v0).setCell ⟨w.heap.size, 1, none⟩ v1).setCell ⟨w.heap.size, 2, none⟩ v2).setCell ⟨w.heap.size, 3, none⟩ v3).setCell ⟨w.heap.size, 4, none⟩ v4).setCell ⟨w.heap.size, 5, none⟩ v5) :=
  ((((((below_drewN (hb.alloc hb.size E) d).setCell (p := ⟨w.heap.size, 0, none⟩) (Nat.le_refl w.heap.size) v0).setCell (p := ⟨w.heap.size, 1, none⟩) (Nat.le_refl w.heap.size) v1).setCell (p := ⟨w.heap.size, 2, none⟩) (Nat.le_refl w.heap.size) v2).setCell (p := ⟨w.heap.size, 3, none⟩) (Nat.le_refl w.heap.size) v3).setCell (p := ⟨w.heap.size, 4, none⟩) (Nat.le_refl w.heap.size) v4).setCell (p := ⟨w.heap.size, 5, none⟩) (Nat.le_refl w.heap.size) v5

set_option maxRecDepth 100000 in
set_option maxHeartbeats 2000000 in
theorem readFields_any (g n cap : Nat) (seq second sb ss : Int) (tl : List Int) (w : World) (hq0 : 0 ≤ seq) (hq1 : seq < 18446744073709551616) (hs0 : 0 ≤ second) (hs1 : second < 18446744073709551616) (hn0 : 0 ≤ ss) (hn1 : ss < 18446744073709551616)
    (hb0 : 0 ≤ sb) (hb1 : sb < 256) (hn : n = 39 + tl.length) (hcap : n ≤ cap) (hm : cap ≤ maxLen) (hg : g < w.heap.size) (c1 : Bytes w g 14 (be8 seq)) (c2 : Bytes w g 22 (be8 second)) (c3 : w.cell? ⟨g, 30, none⟩ = some (.int .u8 sb)) (c4 : Bytes w g 31 (be8 ss)) (c5 : Bytes w g 39 tl) :
    Calls Yba.prog 11 #[.slice (some ⟨g, 0, none⟩) n cap] w fun e w' =>
      ∃ ar capr, e = .returned (.tuple #[.agg #[.int .u64 seq, .int .i64 sb, .int .u64 ss, .slice none 0 0, .pointer none, .int .u64 0], .int .u64 second, .slice ar tl.length capr]) ∧ BRow w' ar tl ∧ Below w.heap.size w w' := by
  unfold maxLen at hm
  go_enter Yba.func11, Yba.ntmps11
  go_wp2
  have HB1 : Hid (∀ w', Below w.heap.size w w' → Bytes w' g 14 (be8 seq)) := fun w' h => c1.keep h
  have HB4 : Hid (∀ w', Below w.heap.size w w' → Bytes w' g 31 (be8 ss)) := fun w' h => c4.keep h
  have hne : g ≠ w.heap.size := by omega
  have hne' : w.heap.size ≠ g := by omega
  have k3 : (w.alloc (.cells #[.int .u64 0, .int .i64 0, .int .u64 0, .slice none 0 0, .pointer none, .int .u64 0] 31)).cell? ⟨g, 30, none⟩ = some (.int .u8 sb) := cell_old _ c3
  have h30 : (30 : Int) < (n : Int) := by omega
  have q1 : (14 : Int) ≤ (n : Int) := by omega
  have q2 : (31 : Int) ≤ (n : Int) := by omega
  have q3 : ¬ cap = 14 := by omega
  have q4 : ¬ cap = 31 := by omega
  have q0 : 39 ≤ n := by omega
  have HN : Hid (n = 39 + tl.length) := hn
  have hwr : IntKind.i64.wrap sb = sb := by rw [IntKind.wrap_i64]; omega
  clear hn
  go_cut [] (fun wc => wc.heap[w.heap.size]? = some (.cells #[.int .u64 seq, .int .i64 sb, .int .u64 ss, .slice none 0 0, .pointer none, .int .u64 0] 31 (0, 0)) ∧ Below w.heap.size w wc)
  case first =>
    go_region_held3 (fun w' => w'.cell? ⟨g, 30, none⟩ = some (.int .u8 sb)) (go_keep)
      (first
        | (go_at_call_of 13 (some (⟨g, 14, none⟩ : Addr)); refine (read64_any g 14 _ _ seq _ hq0 hq1 (by omega) (HB1.out _ (by repeat (first | exact Below.refl _ _ | refine Below.drew ?_ | refine below_drewN ?_ _ | refine Below.alloc ?_ (by simp) _)))).mono ?_; rintro e w' ⟨rfl, d1, rfl⟩)
        | (go_at_call_of 13 (some (⟨g, 31, none⟩ : Addr)); refine (read64_any g 31 _ _ ss _ hn0 hn1 (by omega) (HB4.out _ (by repeat (first | exact Below.refl _ _ | refine Below.drew ?_ | refine below_drewN ?_ _ | refine Below.alloc ?_ (by simp) _)))).mono ?_; rintro e w' ⟨rfl, d2, rfl⟩))
    go_wp2
    go_meet
    case rel =>
      exact filled w _ _ _ _ _ _ _ _ _ _ rfl
  case rest =>
    obtain ⟨hblk, hbc⟩ := hcut
    have r0 := cell_of_block (i := 0) hblk
    have r1 := cell_of_block (i := 1) hblk
    have r2 := cell_of_block (i := 2) hblk
    have r3 := cell_of_block (i := 3) hblk
    have r4 := cell_of_block (i := 4) hblk
    have r5 := cell_of_block (i := 5) hblk
    have f0 := free_of_block (i := 0) hblk
    have f1 := free_of_block (i := 1) hblk
    have f2 := free_of_block (i := 2) hblk
    have f3 := free_of_block (i := 3) hblk
    have f4 := free_of_block (i := 4) hblk
    have f5 := free_of_block (i := 5) hblk
    simp at r0 r1 r2 r3 r4 r5
    have hsc : w.heap.size < wc.heap.size := lt_of_cell r0
    have HK : Hid (wc.heap[w.heap.size]? = some (.cells #[.int .u64 seq, .int .i64 sb, .int .u64 ss, .slice none 0 0, .pointer none, .int .u64 0] 31 (0, 0))) := hblk
    clear hblk HB1 HB4 k3
    have HB2 : Hid (∀ w', Below w.heap.size w w' → Bytes w' g 22 (be8 second)) := fun w' h => c2.keep h
    have HB5 : Hid (∀ w', Below w.heap.size w w' → Bytes w' g 39 tl) := fun w' h => c5.keep h
    have q5 : (22 : Int) ≤ (n : Int) := by omega
    have q6 : (39 : Int) ≤ (n : Int) := by omega
    have q7 : ¬ cap = 22 := by omega
    clear c1 c2 c3 c4 c5 q1 q2 q3 q4 h30 hwr
    by_cases q8 : cap = 39
    · obtain rfl : cap = 39 := q8
      obtain rfl : n = 39 := by omega
      have htl : tl = [] := List.eq_nil_of_length_eq_zero (by have := HN.out; omega)
      subst htl
      go_wp2
      go_region_held3 (fun w' => w'.cell? ⟨w.heap.size, 0, none⟩ = some (.int .u64 seq) ∧ w'.cell? ⟨w.heap.size, 1, none⟩ = some (.int .i64 sb) ∧ w'.cell? ⟨w.heap.size, 2, none⟩ = some (.int .u64 ss) ∧ w'.cell? ⟨w.heap.size, 3, none⟩ = some (.slice none 0 0) ∧ w'.cell? ⟨w.heap.size, 4, none⟩ = some (.pointer none) ∧ w'.cell? ⟨w.heap.size, 5, none⟩ = some (.int .u64 0)) (first | go_keep | exact six_of_block (refilled hsc HK.out))
        ((go_at_call 13; refine (read64_any g 22 _ _ second _ hs0 hs1 (by omega) (HB2.out _ (by exact hbc.drew))).mono ?_; rintro e w' ⟨rfl, d1, rfl⟩))
      go_wp2
      obtain ⟨x0, x1, x2, x3, x4, x5⟩ := six_of_block (refilled (d := 1 + d1) (E := .cells #[] 112) hsc HK.out)
      have hB6 := refilled_below (d := 1 + d1) (E := .cells #[] 112) (v0 := .int .u64 seq) (v1 := .int .i64 sb) (v2 := .int .u64 ss) (v3 := .slice none 0 0) (v4 := .pointer none) (v5 := .int .u64 0) hbc
      refine bodyPost_ret (v := .tuple #[.agg #[.int .u64 seq, .int .i64 sb, .int .u64 ss, .slice none 0 0, .pointer none, .int .u64 0], .int .u64 second, .slice (some ⟨g, 0, none⟩) 0 0]) (by simp [results, Yba.results11, go_sem, x0, x1, x2, x3, x4, x5]) rfl ⟨_, _, rfl, ?_, hB6⟩
      exact .inl rfl
    · go_wp2
      go_region_held3 (fun w' => w'.cell? ⟨w.heap.size, 0, none⟩ = some (.int .u64 seq) ∧ w'.cell? ⟨w.heap.size, 1, none⟩ = some (.int .i64 sb) ∧ w'.cell? ⟨w.heap.size, 2, none⟩ = some (.int .u64 ss) ∧ w'.cell? ⟨w.heap.size, 3, none⟩ = some (.slice none 0 0) ∧ w'.cell? ⟨w.heap.size, 4, none⟩ = some (.pointer none) ∧ w'.cell? ⟨w.heap.size, 5, none⟩ = some (.int .u64 0)) (first | go_keep | exact six_of_block (refilled hsc HK.out))
        ((go_at_call 13; refine (read64_any g 22 _ _ second _ hs0 hs1 (by omega) (HB2.out _ (by exact hbc.drew))).mono ?_; rintro e w' ⟨rfl, d1, rfl⟩))
      go_wp2
      have hnl : n - 39 = tl.length := by have := HN.out; omega
      obtain ⟨x0, x1, x2, x3, x4, x5⟩ := six_of_block (refilled (d := 1 + d1) (E := .cells #[] 112) hsc HK.out)
      have hB6 := refilled_below (d := 1 + d1) (E := .cells #[] 112) (v0 := .int .u64 seq) (v1 := .int .i64 sb) (v2 := .int .u64 ss) (v3 := .slice none 0 0) (v4 := .pointer none) (v5 := .int .u64 0) hbc
      refine bodyPost_ret (v := .tuple #[.agg #[.int .u64 seq, .int .i64 sb, .int .u64 ss, .slice none 0 0, .pointer none, .int .u64 0], .int .u64 second, .slice (some ⟨g, 39, none⟩) tl.length (cap - 39)]) (by simp [results, Yba.results11, go_sem, x0, x1, x2, x3, x4, x5, hnl]) rfl ⟨_, _, rfl, ?_, hB6⟩
      exact .inr ⟨g, 39, rfl, HB5.out _ hB6⟩
end Go.Proofs.Ybulkdsfy.Wire
