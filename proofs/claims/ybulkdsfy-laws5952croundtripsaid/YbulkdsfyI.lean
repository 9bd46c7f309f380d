/-
  LawS5952CWhole: the law's walk.
-/
import Derived.Test.YbulkdsfyH
import Derived.Deep.DeepCutAuto
namespace Go.Proofs.Ybulkdsfy.Wire
open Go.RowKit

theorem and255 (n : Int) : bits .and .i64 n 255 = n % 256 := by
  have h255 : (BitVec.ofInt 64 255).toNat = 2 ^ 8 - 1 := by decide
  have key : (BitVec.ofInt 64 n &&& BitVec.ofInt 64 255).toNat = (n % ((2 ^ 64 : Nat) : Int)).toNat % 2 ^ 8 := by
    rw [BitVec.toNat_and, BitVec.toNat_ofInt, h255, Nat.and_two_pow_sub_one_eq_mod]
  show IntKind.i64.wrap ((BitVec.ofInt 64 n &&& BitVec.ofInt 64 255).toNat : Nat) = n % 256
  rw [key, IntKind.wrap_i64]
  omega

theorem lt_of_cell {w : World} {a : Addr} {v : Value} (h : w.cell? a = some v) : a.block < w.heap.size := by
  rcases Nat.lt_or_ge a.block w.heap.size with h' | h'
  · exact h'
  · simp [World.cell?, Array.getElem?_eq_none h'] at h
theorem BRow.keep {w w' : World} {a : Option Addr} {zs : List Int} (h : BRow w a zs) (hb : Below w.heap.size w w') : BRow w' a zs := by
  rcases h with h | ⟨b, off, ha, hc⟩
  · exact .inl h
  · exact .inr ⟨b, off, ha, fun i hi => (hb.cell (lt_of_cell (hc i hi))).trans (hc i hi)⟩
theorem add_zero' (g j : Nat) : (⟨g, 0, none⟩ : Addr).add j = ⟨g, 0 + j, none⟩ := by unfold Addr.add; split <;> simp_all
theorem bv_get (l : List Int) (i : Nat) (h : i < l.length) : (bv l)[i]? = some (.int .u8 l[i]) := by simp [bv, h]
theorem own_brow {w : World} {B n : Nat} {v : Value} {l : List Int} (h : w.ownsRow B 5 1 v n (bv l)) (hn : n = l.length) : ∃ a cap, v = .slice a n cap ∧ BRow w a l := by
  have hc := fun g hg => h.cells (g := g) hg
  obtain ⟨h1, ⟨rfl, e⟩ | ⟨g, cap, cur, rfl, _⟩⟩ := h
  · exact ⟨none, 0, by rw [e], .inl (List.eq_nil_of_length_eq_zero (by omega))⟩
  · refine ⟨_, _, rfl, .inr ⟨g, 0, rfl, fun i hi => ?_⟩⟩
    have := hc g rfl i _ (bv_get l i hi)
    rwa [add_zero'] at this
theorem brow_cells {w : World} {a : Option Addr} {zs : List Int} (h : BRow w a zs) (x : Addr) (ha : a = some x) : ∀ j u, (bv zs)[j]? = some u → w.cell? (x.add j) = some u := by
  intro j u hj
  subst ha
  rcases h with h | ⟨b, off, hx, hc⟩
  · subst h; simp [bv] at hj
  · cases hx
    have hlt : j < zs.length := by
      rcases Nat.lt_or_ge j zs.length with h | h
      · exact h
      · rw [List.getElem?_eq_none (by rw [bv_len]; exact h)] at hj; cases hj
    rw [bv_get zs j hlt] at hj
    cases hj
    have : (⟨b, off, none⟩ : Addr).add j = ⟨b, off + j, none⟩ := by unfold Addr.add; split <;> simp_all
    rw [this]
    exact hc j hlt
theorem brow_of_block {w : World} {g : Nat} {zs : List Int} {t : TypeId} (h : w.heap[g]? = some (.cells (bv zs).toArray t (0, 0))) : BRow w (some ⟨g, 0, none⟩) zs := by
  refine .inr ⟨g, 0, rfl, fun i hi => ?_⟩
  simp [World.cell?, h, bv, hi]
theorem made_block {w : World} {B g n : Nat} {xs : List Value} (h : w.ownsRow B 5 1 (.slice (some ⟨g, 0, none⟩) n n) n xs) : ∃ cur : List Value, w.heap[g]? = some (.cells cur.toArray 5 (0, 0)) ∧ cur.length = n := by
  obtain ⟨_, ⟨h, _⟩ | ⟨g', cp, cur, e1, _, e3, _, _, e6, _⟩⟩ := h
  · cases h
  · injection e1 with e1 _ e2
    simp at e1
    subst e1 e2
    exact ⟨cur.toList, by simpa using e3, by simpa using e6⟩
theorem below_of_grown {w w' : World} (h : w.grownBy w' none) : Below w.heap.size w w' := (Below.refl _ _).grown h (Nat.le_refl _) (fun _ h => by cases h)
theorem splice_whole (L xs : List Value) (h : L.length = xs.length) : splice L 0 xs = xs := by
  unfold splice
  rw [List.drop_eq_nil_of_le (by omega)]
  simp

set_option maxRecDepth 100000 in
set_option maxHeartbeats 2000000 in
theorem law_main (zs : List Int) (a0 : Option Addr) (cap0 : Nat) (seq second sender ss : Int) (w : World) (hl : zs.length ≤ 1048576) (hr : BRow w a0 zs) (hnil : a0 = none → zs = [] ∧ cap0 = 0)
    (hq0 : 0 ≤ seq) (hq1 : seq < 18446744073709551616) (hs0 : 0 ≤ second) (hs1 : second < 18446744073709551616) (hn0 : 0 ≤ ss) (hn1 : ss < 18446744073709551616) :
    Calls Yba.prog 4 #[.slice a0 zs.length cap0, .int .u64 seq, .int .u64 second, .int .i64 sender, .int .u64 ss] w fun e w' => e = .returned (.bool true) ∧ Below w.heap.size w w' := by
  have HN : Hid (a0 = none → zs = [] ∧ cap0 = 0) := hnil
  clear hnil
  obtain ⟨i0, hi, hz0, hz1, hz2⟩ := info_parts info5
  have hsc : ∀ w2 : World, Below w.heap.size w w2 → 0 < (bv zs).length → some (⟨w.heap.size, 0, none⟩ : Addr) = some ⟨w.heap.size, 0, none⟩ ∧ ∃ ad, a0 = some ad ∧ ∀ j v, (bv zs)[j]? = some v → w2.cell? (ad.add j) = some v := by
    intro w2 h2 hp
    refine ⟨rfl, ?_⟩
    rcases a0 with _ | x
    · rw [(HN.out rfl).1] at hp; simp [bv] at hp
    · exact ⟨x, rfl, brow_cells (hr.keep h2) x rfl⟩
  go_enter Yba.func4, Yba.ntmps4
  go_upto_region 4 with (at_make; refine wpList_make_full _ rfl _ _ 28 rfl w.heap.size 5 i0 _ 1 Yba.underlying28 hi hz0 hz1 .i64 .i64 _ _ zs.length rfl rfl rfl rfl (by rw [hz2]; omega) (by unfold maxLen; omega) (Nat.le_refl _) ?_; intro w1 hown1 hgr1; obtain ⟨cur, hcur, hcl⟩ := made_block hown1; have hb1 := below_of_grown hgr1; clear hown1 hgr1)
  have hc4 := hsc _ hb1
  clear hsc
  go_upto_region 5 with (refine wpList_copy_splice rfl (.tmp 20) (.tmp 21) 28 28 rfl 5 Yba.underlying28 (by rw [hi]; simp [hz1]) _ _ _ _ _ _ rfl rfl w.heap.size 0 cur 5 hcur (bv zs) (by simp [bv_len]) hc4 (by simp [bv_len]; omega) (bv_one _) w.heap.size w hb1 (Nat.le_refl _) ?_; intro w2 hrow2 hb2)
  clear hc4 hcur hb1
  go_upto_region 7 with (at_make; refine wpList_make_own _ rfl _ _ 28 rfl w2.heap.size 5 i0 _ 1 Yba.underlying28 hi hz0 hz1 .i64 .i64 _ (zs.length + 25) rfl rfl (by omega) (by rw [hz2]; omega) (by unfold maxLen; omega) (Nat.le_refl _) ?_; intro w3 hown3 hgr3)
  have hb3 := below_of_grown hgr3
  have hA : Hid (BRow w2 (some ⟨w.heap.size, 0, none⟩) zs) := brow_of_block (t := 5) (by rw [hrow2.out, splice_whole _ _ (by rw [bv_len]; exact hcl)])
  have hs2 : w.heap.size < w2.heap.size := by
    rcases Nat.lt_or_ge w.heap.size w2.heap.size with h | h
    · exact h
    · have := hrow2.out; rw [Array.getElem?_eq_none h] at this; cases this
  clear hrow2 hgr3 hcl
  go_cut [12] (fun v wc => wc.ownsRow w2.heap.size 5 1 v zs.length (bv zs) ∧ Below w2.heap.size w2 wc)
  case first =>
    rcases a0 with _ | x
    · obtain ⟨rfl, rfl⟩ := HN.out rfl
      go_wp2_with (at_builtin; refine wpList_append_own_none rfl _ _ 28 rfl w2.heap.size 5 i0 1 Yba.underlying28 hi _ _ _ rfl hown3 rfl ?_)
      go_meet
      case rel => exact ⟨hown3, hb3⟩
    · have hbr := brow_cells (hr.keep (hb2.trans (hb3.mono (by omega)))) x rfl
      go_wp2_with (at_builtin; refine wpList_append_own _ rfl _ _ 28 rfl w2.heap.size 5 i0 (.int .u8 0) 1 1 Yba.underlying28 hi hz0 hz1 hz2 rfl (by decide) _ _ _ rfl hown3 x zs.length cap0 (bv zs) rfl (by simp [bv_len]) hbr (bv_one _) (by unfold maxLen; omega) (by omega) hb3.size ?_)
      intro v4 w4 hown4 hgr4 _
      have hb4 := hb3.grown hgr4 hb3.size (fun j hj => (hown3.lt j hj).1)
      clear hgr4
      go_wp2
      go_meet
      case rel => exact ⟨by simpa using hown4, hb4⟩
  case rest =>
    obtain ⟨hown4, hb4⟩ := hcut
    clear hown3 hb3
    go_wp2_with fail
    refine (put_any w2.heap.size zs.length _ _ seq _ hq0 hq1 hown4 hb4.size (by omega)).mono ?_
    rintro e w5 ⟨v5, rfl, hown5, hb5'⟩
    have hb5 := hb4.trans hb5'
    clear hown4 hb4 hb5'
    go_wp2_with fail
    refine (put_any w2.heap.size (zs.length + 8) _ _ second _ hs0 hs1 hown5 hb5.size (by omega)).mono ?_
    rintro e w6 ⟨v6, rfl, hown6, hb6'⟩
    have hb6 := hb5.trans hb6'
    clear hown5 hb5 hb6'
    have hsz6 := hb6.size
    have hand := and255 sender
    go_wp2_with (at_builtin; refine wpList_append_own _ rfl _ _ 28 rfl w2.heap.size 5 i0 (.int .u8 0) 1 1 Yba.underlying28 hi hz0 hz1 hz2 rfl (by decide) _ _ _ rfl (hown6.alloc _) ⟨w6.heap.size, 0, none⟩ 1 1 (bv [sender % 256]) rfl rfl (news_at rfl) (bv_one _) (by unfold maxLen; omega) (by omega) (by simp; omega) ?_)
    intro v7 w7 hown7 hgr7 _
    have hb7 := (hb6.alloc hsz6 (.cells (bv [sender % 256]).toArray 5)).grown hgr7 (by simp; omega) (fun j hj => (hown6.lt j hj).1)
    clear hown6 hb6 hgr7 hsz6 hand
    go_wp2_with fail
    refine (put_any w2.heap.size (zs.length + 8 + 8 + 1) _ _ ss _ hn0 hn1 hown7 hb7.size (by omega)).mono ?_
    rintro e w8 ⟨v8, rfl, hown8, hb8'⟩
    have hb8 := hb7.trans hb8'
    clear hown7 hb7 hb8'
    have hA8 := hA.out.keep hb8
    go_wp2_with fail
    refine (fields_any (some ⟨w.heap.size, 0, none⟩) zs.length zs.length (bv zs) seq second sender ss w8 hq0 hq1 hs0 hs1 hn0 hn1 (fun h => by cases h) (bv_len _) (fun b hb => brow_cells hA8 b hb) (by omega) (by omega)).mono ?_
    rintro e w9 ⟨v9, rfl, hown9, hb9⟩
    obtain ⟨L, hL⟩ : ∃ L, L = zs ++ (be8 seq ++ be8 second ++ [sender % 256] ++ be8 ss) := ⟨_, rfl⟩
    have hLl : L.length = zs.length + 25 := by rw [hL]; simp [be8]
    have e9 : bv zs ++ bv (be8 seq ++ be8 second ++ [sender % 256] ++ be8 ss) = bv L := by rw [hL, bv_append zs]
    have e8 : bv zs ++ (bv (be8 seq) ++ (bv (be8 second) ++ (bv [sender % 256] ++ bv (be8 ss)))) = bv L := by rw [hL]; simp only [bv_append, List.append_assoc]
    rw [e9] at hown9
    simp only [List.append_assoc] at hown8
    rw [e8] at hown8
    obtain ⟨a9, cap9, rfl, hr9⟩ := own_brow hown9 hLl.symm
    obtain ⟨a8, cap8, rfl, hr8⟩ := own_brow hown8 hLl.symm
    have hr8' := hr8.keep hb9
    have hA9 := hA8.keep hb9
    have hbw := (hb2.trans (hb8.mono (by omega))).trans (hb9.mono (by have := hb8.size; have := hb2.size; omega))
    have hr9' := hr.keep hbw
    clear hown9 hown8 e9 e8 hL hr8 hA8 hA hb9 hb8 hb2 hr
    have hc1 := eq_any L a9 a8 cap9 cap8 w9 (by omega) hr9 hr8'
    rw [hLl] at hc1
    go_wp2_with fail
    refine hc1.mono ?_
    rintro e w10 ⟨rfl, d, rfl⟩
    clear hc1
    go_wp2_with fail
    refine (eq_any zs (some ⟨w.heap.size, 0, none⟩) a0 zs.length cap0 (w9.drewN d) (by omega) hA9 hr9').mono ?_
    rintro e w11 ⟨rfl, d2, rfl⟩
    go_wp2
    go_ret
    exact ⟨rfl, below_drewN hbw _⟩
end Go.Proofs.Ybulkdsfy.Wire
