/-
  The wire laws: the contracts of zzs5952ceq and appendMessageFields.
-/
import Derived.Test.YbulkdsfyG
namespace Go.Proofs.Ybulkdsfy.Wire
open Go.RowKit

/-- The slice of bytes at 'a' reads as 'zs' in the world. -/
def BRow (w : World) (a : Option Addr) (zs : List Int) : Prop :=
  zs = [] ∨ ∃ b off, a = some ⟨b, off, none⟩ ∧ ∀ i, (h : i < zs.length) → w.cell? ⟨b, off + i, none⟩ = some (.int .u8 zs[i])

set_option maxHeartbeats 400000 in
theorem eq_any (zs : List Int) (a1 a2 : Option Addr) (cap1 cap2 : Nat) (w : World) (hl : zs.length ≤ 16777216) (h1 : BRow w a1 zs) (h2 : BRow w a2 zs) :
    Calls Yba.prog 10 #[.slice a1 zs.length cap1, .slice a2 zs.length cap2] w fun e w' => e = .returned (.bool true) ∧ ∃ d, w' = w.drewN d := by
  go_enter Yba.func10, Yba.ntmps10
  go_wp2
  go_loopw [5] (fun i wr => ∃ k : Nat, k ≤ zs.length ∧ i = .int .i64 k ∧ ∃ d, wr = w.drewN d) (fun i _ => zs.length - (intOf i).toNat)
  case atStart => exact ⟨0, by omega, rfl, 0, rfl⟩
  case round =>
    obtain ⟨k, hk, rfl, d, rfl⟩ := hrel
    by_cases hlt : k < zs.length
    · rcases h1 with h1 | ⟨b, off, rfl, c1⟩
      · subst h1; simp at hlt
      rcases h2 with h2 | ⟨b2, off2, rfl, c2⟩
      · subst h2; simp at hlt
      have d1 := c1 k hlt
      have d2 := c2 k hlt
      have hki : (k : Int) < (zs.length : Int) := by omega
      clear c1 c2
      go_wp2
      go_quiet (fail)
      go_wp2
      go_roundw
      case rel => exact ⟨k + 1, by omega, by go_num, _, rfl⟩
      case measure => simp [intOf]; omega
    · go_wp2
      go_ret
      exact ⟨rfl, _, rfl⟩

set_option maxRecDepth 100000 in
set_option maxHeartbeats 2000000 in
theorem fields_any (ao : Option Addr) (n cap : Nat) (olds : List Value) (seq second sender ss : Int) (w : World) (hq0 : 0 ≤ seq) (hq1 : seq < 18446744073709551616) (hs0 : 0 ≤ second) (hs1 : second < 18446744073709551616) (hn0 : 0 ≤ ss) (hn1 : ss < 18446744073709551616)
    (hnil : ao = none → n = 0 ∧ cap = 0) (hlo : olds.length = n) (holds : ∀ b, ao = some b → ∀ j u, olds[j]? = some u → w.cell? (b.add j) = some u) (hfull : cap < n + 8) (hn : n ≤ 8388608) :
    Calls Yba.prog 9 #[.slice ao n cap, .agg #[.int .u64 seq, .int .i64 sender, .int .u64 ss, .slice none 0 0, .pointer none, .int .u64 0], .int .u64 second] w fun e w' =>
      ∃ v', e = .returned v' ∧ w'.ownsRow w.heap.size 5 1 v' (n + 25) (olds ++ bv (be8 seq ++ be8 second ++ [sender % 256] ++ be8 ss)) ∧ Below w.heap.size w w' := by
  have HN : Hid (ao = none → n = 0 ∧ cap = 0) := hnil
  have HO : Hid (∀ b, ao = some b → ∀ j u, olds[j]? = some u → w.cell? (b.add j) = some u) := holds
  clear hnil holds
  obtain ⟨i0, hi, hz0, hz1, hz2⟩ := info_parts info5
  go_enter Yba.func9, Yba.ntmps9
  go_wp2_with fail
  have hb0 := (Below.refl w.heap.size w).alloc (Nat.le_refl _) (.cells #[.int .u64 seq, .int .i64 sender, .int .u64 ss, .slice none 0 0, .pointer none, .int .u64 0] 31)
  have k1 : (w.alloc (.cells #[.int .u64 seq, .int .i64 sender, .int .u64 ss, .slice none 0 0, .pointer none, .int .u64 0] 31)).cell? ⟨w.heap.size, 1, none⟩ = some (.int .i64 sender) := by simp
  have k2 : (w.alloc (.cells #[.int .u64 seq, .int .i64 sender, .int .u64 ss, .slice none 0 0, .pointer none, .int .u64 0] 31)).cell? ⟨w.heap.size, 2, none⟩ = some (.int .u64 ss) := by simp
  have ks : (w.alloc (.cells #[.int .u64 seq, .int .i64 sender, .int .u64 ss, .slice none 0 0, .pointer none, .int .u64 0] 31)).heap.size = w.heap.size + 1 := by simp
  have ho0 : Hid (∀ b, ao = some b → ∀ j u, olds[j]? = some u → (w.alloc (.cells #[.int .u64 seq, .int .i64 sender, .int .u64 ss, .slice none 0 0, .pointer none, .int .u64 0] 31)).cell? (b.add j) = some u) := by
    intro b hb j u hj
    have h := HO.out b hb j u hj
    refine (hb0.cell ?_).trans h
    rcases Nat.lt_or_ge (b.add j).block w.heap.size with h' | h'
    · exact h'
    · simp [World.cell?, Array.getElem?_eq_none h'] at h
  generalize (w.alloc (.cells #[.int .u64 seq, .int .i64 sender, .int .u64 ss, .slice none 0 0, .pointer none, .int .u64 0] 31)) = W at *
  refine (append64_grow ao n cap olds seq W hq0 hq1 HN.out hlo ho0.out hfull (by omega)).mono ?_
  rintro e w1 ⟨v1, rfl, ho1, hb1⟩
  rw [ks] at ho1 hb1
  have j1 := (hb1.cell (p := ⟨w.heap.size, 1, none⟩) (by simp)).trans k1
  have j2 := (hb1.cell (p := ⟨w.heap.size, 2, none⟩) (by simp)).trans k2
  have hs1' : w.heap.size + 1 ≤ w1.heap.size := by have := hb1.size; omega
  have hbA := hb0.trans (hb1.mono (by omega))
  clear k1 k2 ho0 hb0 hb1 HO HN
  go_wp2_with fail
  refine (append64_own (w.heap.size + 1) (n + 8) v1 _ second w1 hs0 hs1 ho1 hs1' (by omega)).mono ?_
  rintro e w2 ⟨v2, rfl, ho2, hb2⟩
  have l1 := (hb2.cell (p := ⟨w.heap.size, 1, none⟩) (by simp)).trans j1
  have l2 := (hb2.cell (p := ⟨w.heap.size, 2, none⟩) (by simp)).trans j2
  have hs2' : w.heap.size + 1 ≤ w2.heap.size := by have := hb2.size; omega
  have hbB := hbA.trans (hb2.mono (by omega))
  clear j1 j2 hbA hb2 ho1 hs1'
  go_wp2_with (at_builtin; refine wpList_append_own _ rfl _ _ 28 rfl (w.heap.size + 1) 5 i0 (.int .u8 0) 1 1 Yba.underlying28 hi hz0 hz1 hz2 rfl (by decide) _ _ _ rfl (ho2.alloc _) ⟨w2.heap.size, 0, none⟩ 1 1 (bv [sender % 256]) rfl rfl (news_at rfl) (bv_one _) (by unfold maxLen; omega) (by omega) (by simp; omega) ?_)
  intro v3 w3 ho3 hg3 _
  have hb3 : Below (w.heap.size + 1) w2 w3 := ((Below.refl (w.heap.size + 1) w2).alloc hs2' _).grown hg3 (by simp; omega) (fun j hj => (ho2.lt j hj).1)
  have p2 := (hb3.cell (p := ⟨w.heap.size, 2, none⟩) (by simp)).trans l2
  have hs3' : w.heap.size + 1 ≤ w3.heap.size := by have := hb3.size; omega
  have hbC := hbB.trans (hb3.mono (by omega))
  clear l1 l2 hbB hg3 ho2 hb3
  go_wp2_with fail
  refine (append64_own (w.heap.size + 1) (n + 8 + 8 + 1) v3 _ ss w3 hn0 hn1 ho3 hs3' (by omega)).mono ?_
  rintro e w4 ⟨v4, rfl, ho4, hb4⟩
  have hbD := hbC.trans (hb4.mono (by omega))
  clear hbC hb4 p2
  go_wp2
  go_ret
  refine ⟨_, rfl, ?_, hbD⟩
  have := ownsRow_mono ho4 (Nat.le_succ w.heap.size)
  rw [show bv (be8 seq ++ be8 second ++ [sender % 256] ++ be8 ss) = bv (be8 seq) ++ (bv (be8 second) ++ (bv [sender % 256] ++ bv (be8 ss))) by simp only [bv_append, List.append_assoc]]
  simp only [List.append_assoc] at this
  exact this
end Go.Proofs.Ybulkdsfy.Wire
