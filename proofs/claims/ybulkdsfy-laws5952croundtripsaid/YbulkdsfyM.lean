/-
  LawS5952CRoundTrip: the law's walk.
-/
import Derived.Test.YbulkdsfyL
namespace Go.Proofs.Ybulkdsfy.Wire
open Go.RowKit

/-- The head's cells, k of them filled. -/
def HInv (B : Nat) (hs : List Int) (k : Nat) (wr : World) : Prop :=
  ∃ c : Array Value, wr.heap[B]? = some (.cells c 5 (0, 0)) ∧ c.size = 14 ∧ ∀ i, (h : i < hs.length) → i < k → c[i]? = some (.int .u8 hs[i])
theorem HInv.cell {B k : Nat} {hs : List Int} {wr : World} (h : HInv B hs k wr) (i : Nat) (hi : i < 14) : ∃ v, wr.cell? ⟨B, i, none⟩ = some v := by
  obtain ⟨c, hb, hs, _⟩ := h
  exact ⟨c[i]'(by omega), by rw [cell_of_block hb, Array.getElem?_eq_getElem]⟩
theorem HInv.free {B k : Nat} {hs : List Int} {wr : World} (h : HInv B hs k wr) (i : Nat) : wr.frozen? ⟨B, i, none⟩ = false := by
  obtain ⟨c, hb, _⟩ := h
  exact free_of_block hb
theorem HInv.step {B k : Nat} {hs : List Int} {wr : World} (h : HInv B hs k wr) (hk : k < hs.length) (h14 : hs.length = 14) : HInv B hs (k + 1) (wr.setCell ⟨B, k, none⟩ (.int .u8 hs[k])) := by
  obtain ⟨c, hb, hsz, hc⟩ := h
  refine ⟨_, setCell_block hb, by simpa using hsz, fun i hi hik => ?_⟩
  by_cases e : i = k
  · subst e
    rw [Array.getElem?_setIfInBounds_self_of_lt (by omega)]
  · rw [Array.getElem?_setIfInBounds_ne (by omega)]
    exact hc i hi (by omega)
theorem HInv.done {B : Nat} {hs : List Int} {wr : World} (h : HInv B hs hs.length wr) : BRow wr (some ⟨B, 0, none⟩) hs := by
  obtain ⟨c, hb, _, hc⟩ := h
  refine .inr ⟨B, 0, rfl, fun i hi => ?_⟩
  rw [cell_of_block hb, Nat.zero_add]
  exact hc i hi hi

theorem own_at {w : World} {B n : Nat} {v : Value} {l : List Int} (h : w.ownsRow B 5 1 v n (bv l)) (hn : 0 < n) : ∃ g cap, v = .slice (some ⟨g, 0, none⟩) n cap ∧ n ≤ cap ∧ cap ≤ maxLen ∧ g < w.heap.size ∧ Bytes w g 0 l := by
  have hc := fun g hg => h.cells (g := g) hg
  have hl := h.lt
  obtain ⟨h1, ⟨_, e⟩ | ⟨g, cap, cur, rfl, _, _, e1, e2, _⟩⟩ := h
  · omega
  · refine ⟨g, cap, rfl, e1, e2, (hl g rfl).2, fun i hi => ?_⟩
    have := hc g rfl i _ (bv_get l i hi)
    rwa [add_zero'] at this
theorem bytes_split {w : World} {g o : Nat} {a b : List Int} (h : Bytes w g o (a ++ b)) : Bytes w g o a ∧ Bytes w g (o + a.length) b := by
  refine ⟨fun i hi => ?_, fun i hi => ?_⟩
  · have := h i (by simp; omega)
    rwa [List.getElem_append_left hi] at this
  · have := h (a.length + i) (by simp; omega)
    rw [List.getElem_append_right (by omega)] at this
    simpa [Nat.add_assoc] using this
theorem bytes_all {w : World} {g : Nat} {hs zs : List Int} {seq second sb ss : Int} (h14 : hs.length = 14) (h : Bytes w g 0 (hs ++ (be8 seq ++ be8 second ++ [sb] ++ be8 ss) ++ zs)) :
    Bytes w g 14 (be8 seq) ∧ Bytes w g 22 (be8 second) ∧ w.cell? ⟨g, 30, none⟩ = some (.int .u8 sb) ∧ Bytes w g 31 (be8 ss) ∧ Bytes w g 39 zs := by
  have e8 : ∀ x, (be8 x).length = 8 := fun x => rfl
  have s1 := bytes_split h
  have s2 := bytes_split s1.1
  have s3 := bytes_split s2.2
  have s4 := bytes_split s3.1
  have s5 := bytes_split s4.1
  simp only [List.length_append, h14, e8, List.length_cons, List.length_nil, Nat.zero_add, Nat.reduceAdd] at s1 s2 s3 s4 s5
  exact ⟨s5.1, s5.2, by simpa using s4.2 0 (by simp), s3.2, s1.2⟩

set_option maxRecDepth 100000 in
set_option maxHeartbeats 2000000 in
theorem round_main (hs zs : List Int) (a1 : Option Addr) (cap1 : Nat) (seq second sender ss : Int) (w : World) (h14 : hs.length = 14) (hl : zs.length ≤ 1048576) (hr : BRow w a1 zs) (hnil : a1 = none → zs = [] ∧ cap1 = 0)
    (hq0 : 0 ≤ seq) (hq1 : seq < 18446744073709551616) (hs0 : 0 ≤ second) (hs1 : second < 18446744073709551616) (hn0 : 0 ≤ ss) (hn1 : ss < 18446744073709551616) :
    Calls Yba.prog 5 #[.agg (bv hs).toArray, .slice a1 zs.length cap1, .int .u64 seq, .int .u64 second, .int .i64 sender, .int .u64 ss] w fun e w' => e = .returned (.bool true) ∧ Below w.heap.size w w' := by
  have HN : Hid (a1 = none → zs = [] ∧ cap1 = 0) := hnil
  clear hnil
  obtain ⟨i0, hi, hz0, hz1, hz2⟩ := info_parts info5
  go_enter Yba.func5, Yba.ntmps5
  go_wp2_with (at_make; refine wpList_make_full _ rfl _ _ 28 rfl (w.heap.size + 1) 5 i0 _ 1 Yba.underlying28 hi hz0 hz1 .i64 .i64 _ _ 14 rfl rfl rfl rfl (by rw [hz2]; omega) (by unfold maxLen; omega) (by simp) ?_; intro w1 hown1 hgr1)
  have hb1 : Below (w.heap.size + 1) (w.alloc (.cells (bv hs).toArray 106)) w1 := (below_of_grown hgr1).mono (by simp)
  have hw1 : Below w.heap.size w w1 := ((Below.refl w.heap.size w).alloc (Nat.le_refl _) _).trans (hb1.mono (by omega))
  have hh1 : ∀ i, (h : i < hs.length) → w1.cell? ⟨w.heap.size, i, none⟩ = some (.int .u8 hs[i]) := by
    intro i hi'
    rw [hb1.cell (p := ⟨w.heap.size, i, none⟩) (by simp), World.cell?_alloc_at _ _ _ _ rfl]
    simp [bv, hi']
  have hv1 : HInv (w.heap.size + 1) hs 0 w1 := by
    obtain ⟨cur, hc, hcl⟩ := made_block hown1
    rw [show (w.alloc (.cells (bv hs).toArray 106)).heap.size = w.heap.size + 1 by simp] at hc
    exact ⟨cur.toArray, hc, by simpa using hcl, fun i _ h => by omega⟩
  clear hown1 hgr1 hb1
  go_loopw [14] (fun i wr => ∃ k : Nat, k ≤ 14 ∧ i = .int .i64 k ∧ HInv (w.heap.size + 1) hs k wr ∧ (∀ i, (h : i < hs.length) → wr.cell? ⟨w.heap.size, i, none⟩ = some (.int .u8 hs[i])) ∧ Below w.heap.size w wr) (fun i _ => 14 - (intOf i).toNat)
  case atStart => exact ⟨0, by omega, rfl, hv1, hh1, hw1⟩
  case round =>
    clear hv1 hh1 hw1
    obtain ⟨k, hk, rfl, hI, hh, hw⟩ := hrel
    by_cases hlt : k < 14
    · have c0 := hh k (by omega)
      obtain ⟨u, c1⟩ := hI.cell k hlt
      have f1 := hI.free k
      have R := hI.step (by omega) h14
      have HR : Hid (HInv (w.heap.size + 1) hs (k + 1) (wr.setCell ⟨w.heap.size + 1, k, none⟩ (.int .u8 (hs[k]'(by omega))))) := R
      have HH : Hid (∀ i, (h : i < hs.length) → wr.cell? ⟨w.heap.size, i, none⟩ = some (.int .u8 hs[i])) := hh
      clear hh hI R
      go_wp2
      go_roundw
      case rel => exact ⟨k + 1, by omega, by go_num, HR.out, fun i h => by rw [World.cell?_setCell_other _ _ _ _ (by simp)]; exact HH.out i h, hw.setCell (p := ⟨w.heap.size + 1, k, none⟩) (Nat.le_succ _) _⟩
      case measure => simp [intOf]; omega
    · obtain rfl : k = 14 := by omega
      have hd : BRow wr (some ⟨w.heap.size + 1, 0, none⟩) hs := by
        rw [← h14] at hI; exact hI.done
      clear hI hh
      go_wp2_with fail
      refine (fields_any (some ⟨w.heap.size + 1, 0, none⟩) 14 14 (bv hs) seq second sender ss wr hq0 hq1 hs0 hs1 hn0 hn1 (fun h => by cases h) (by rw [bv_len]; exact h14) (fun b hb => brow_cells hd b hb) (by omega) (by omega)).mono ?_
      rintro e w2 ⟨v2, rfl, hown2, hb2⟩
      have hbw := hw.trans (hb2.mono hw.size)
      clear hd
      go_upto_region 9 with fail
      obtain ⟨M, hM⟩ : ∃ M, M = hs ++ (be8 seq ++ be8 second ++ [sender % 256] ++ be8 ss) := ⟨_, rfl⟩
      have hMl : M.length = 39 := by rw [hM]; simp [be8, h14]
      rw [show bv hs ++ bv (be8 seq ++ be8 second ++ [sender % 256] ++ be8 ss) = bv M by rw [hM, bv_append hs]] at hown2
      have HM : Hid (M = hs ++ (be8 seq ++ be8 second ++ [sender % 256] ++ be8 ss)) := hM
      clear hM
      go_cut [15] (fun v wc => wc.ownsRow wr.heap.size 5 1 v (39 + zs.length) (bv (M ++ zs)) ∧ Below wr.heap.size wr wc)
      case first =>
        rcases a1 with _ | x
        · obtain ⟨rfl, rfl⟩ := HN.out rfl
          go_wp2_with (at_builtin; refine wpList_append_own_none rfl _ _ 28 rfl wr.heap.size 5 i0 1 Yba.underlying28 hi _ _ _ rfl hown2 rfl ?_)
          go_meet
          case rel => exact ⟨by simpa using hown2, hb2⟩
        · have hbr := brow_cells (hr.keep hbw) x rfl
          go_wp2_with (at_builtin; refine wpList_append_own _ rfl _ _ 28 rfl wr.heap.size 5 i0 (.int .u8 0) 1 1 Yba.underlying28 hi hz0 hz1 hz2 rfl (by decide) _ _ _ rfl hown2 x zs.length cap1 (bv zs) rfl (by simp [bv_len]) hbr (bv_one _) (by unfold maxLen; omega) (by omega) hb2.size ?_)
          intro v4 w4 hown4 hgr4 _
          have hb4 := hb2.grown hgr4 hb2.size (fun j hj => (hown2.lt j hj).1)
          clear hgr4
          go_wp2
          go_meet
          case rel => exact ⟨by rw [bv_append]; exact hown4, hb4⟩
      case rest =>
        obtain ⟨hown3, hb3⟩ := hcut
        have hbw3 := hw.trans (hb3.mono hw.size)
        clear hown2 hb2 hbw
        obtain ⟨g, cap, rfl, hgc, hgm, hgl, hby⟩ := own_at hown3 (by omega)
        rw [HM.out] at hby
        obtain ⟨c1, c2, c3, c4, c5⟩ := bytes_all h14 hby
        clear hby hown3 HM
        have hand := and255 sender
        have hwr : IntKind.i64.wrap (sender % 256) = sender % 256 := by rw [IntKind.wrap_i64]; omega
        go_wp2_with fail
        refine (readFields_any g (39 + zs.length) cap seq second (sender % 256) ss zs wc hq0 hq1 hs0 hs1 hn0 hn1 (by omega) (by omega) rfl hgc hgm hgl c1 c2 c3 c4 c5).mono ?_
        rintro e w5 ⟨ar, capr, rfl, hrr, hb5⟩
        have hb6 := hbw3.trans (hb5.mono hbw3.size)
        clear c1 c2 c3 c4 c5 hbw3 hb3 hb5 hgl hgc hgm
        go_wp2_with fail
        have hb7 := (Below.refl w5.heap.size w5).alloc (Nat.le_refl _) (.cells #[.int .u64 seq, .int .i64 (sender % 256), .int .u64 ss, .slice none 0 0, .pointer none, .int .u64 0] 31)
        have hb8 := hb6.trans (hb7.mono hb6.size)
        refine (eq_any zs ar a1 capr cap1 _ (by omega) (hrr.keep hb7) (hr.keep hb8)).mono ?_
        rintro e w6 ⟨rfl, d, rfl⟩
        go_wp2
        go_ret
        exact ⟨rfl, below_drewN hb8 _⟩
end Go.Proofs.Ybulkdsfy.Wire
