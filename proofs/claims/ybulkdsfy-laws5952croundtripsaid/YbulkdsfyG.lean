/-
  The wire laws (LawS5952CWhole, LawS5952CRoundTrip): the callees' contracts.
-/
import Derived.Test.YbulkdsfyRows
import Derived.WalkKit
import Derived.WalkSpells
import Derived.WalkLawsBesides
import Derived.Deep.QuietTactic
import Derived.BigQuiet
import Derived.Laws.CopyOwn
import Derived.Laws.AppendOwnNone
import Derived.ArgAppend
import Derived.Lib.EndianBits
namespace Go.Proofs.Ybulkdsfy.Wire
open Go.RowKit

theorem info5 : (Yba.prog.info? 5).map (fun i => (i.zero, i.size, i.bytes)) = some (some (.int .u8 0), 1, 1) := by kernel_rfl

/-- The eight bytes of x, the greatest first. -/
def be8 (x : Int) : List Int := [x / 72057594037927936, x / 281474976710656 % 256, x / 1099511627776 % 256, x / 4294967296 % 256, x / 16777216 % 256, x / 65536 % 256, x / 256 % 256, x % 256]
def bv (l : List Int) : List Value := l.map (Value.int .u8)
theorem bv_len (l : List Int) : (bv l).length = l.length := by simp [bv]
theorem bv_one (l : List Int) : ∀ u ∈ bv l, u.oneCell' = true := by
  intro u hu
  simp only [bv, List.mem_map] at hu
  obtain ⟨z, _, rfl⟩ := hu
  rfl
theorem bv_append (l m : List Int) : bv (l ++ m) = bv l ++ bv m := by simp [bv]

/-- The new cells of a slice literal of bytes, in a block of their own. -/
theorem news_at {w : World} {l : List Value} {e n : Nat} (hn : n = w.heap.size) : ∀ j u, l[j]? = some u → (w.alloc (.cells l.toArray e)).cell? ((⟨n, 0, none⟩ : Addr).add j) = some u := by
  intro j u hj
  subst hn
  rw [show (⟨w.heap.size, 0, none⟩ : Addr).add j = ⟨w.heap.size, j, none⟩ by unfold Addr.add; split <;> simp_all, World.cell?_alloc_at _ _ _ _ rfl]
  simpa using hj

theorem ownsRow_mono {w : World} {B B' e size n : Nat} {v : Value} {xs : List Value} (h : w.ownsRow B e size v n xs) (hB : B' ≤ B) : w.ownsRow B' e size v n xs := by
  obtain ⟨h1, h2 | ⟨g, cap, cur, e1, e2, r⟩⟩ := h
  · exact ⟨h1, .inl h2⟩
  · exact ⟨h1, .inr ⟨g, cap, cur, e1, by omega, r⟩⟩

set_option maxRecDepth 100000 in
set_option maxHeartbeats 8000000 in
theorem append64_own (B n : Nat) (v : Value) (xs : List Value) (x : Int) (w : World) (hx0 : 0 ≤ x) (hx1 : x < 18446744073709551616) (hown : w.ownsRow B 5 1 v n xs) (hB : B ≤ w.heap.size) (hn : n ≤ 16777216) :
    Calls Yba.prog 12 #[.agg #[], v, .int .u64 x] w fun e w' => ∃ v', e = .returned v' ∧ w'.ownsRow B 5 1 v' (n + 8) (xs ++ bv (be8 x)) ∧ Below B w w' := by
  obtain ⟨i0, hi, hz0, hz1, hz2⟩ := info_parts info5
  go_enter Yba.func12, Yba.ntmps12
  go_wp2_with (at_builtin; refine wpList_append_own _ rfl _ _ 28 rfl B 5 i0 (.int .u8 0) 1 1 Yba.underlying28 hi hz0 hz1 hz2 rfl (by decide) _ _ _ rfl ((hown.alloc _).alloc _) ⟨w.heap.size + 1, 0, none⟩ 8 8 (bv (be8 x)) rfl rfl ?c1 ?c2 ?c3 ?c4 ?c5 ?_)
  case c1 => exact news_at (by simp)
  case c2 => exact bv_one _
  case c3 => unfold maxLen; omega
  case c4 => omega
  case c5 => simp; omega
  intro v' w2 hown' hgrow _
  go_wp2
  go_ret
  exact ⟨v', rfl, hown', (((Below.refl B w).alloc hB _).alloc (by simp; omega) _).grown hgrow (by simp; omega) (fun k hk => (hown.lt k hk).1)⟩

set_option maxRecDepth 100000 in
set_option maxHeartbeats 8000000 in
/-- Onto a slice without room: a new array is made, and of what was there nothing turns. -/
theorem append64_grow (ao : Option Addr) (n cap : Nat) (olds : List Value) (x : Int) (w : World) (hx0 : 0 ≤ x) (hx1 : x < 18446744073709551616) (hnil : ao = none → n = 0 ∧ cap = 0) (hlo : olds.length = n) (holds : ∀ b, ao = some b → ∀ j u, olds[j]? = some u → w.cell? (b.add j) = some u) (hfull : cap < n + 8) (hn : n ≤ 16777216) :
    Calls Yba.prog 12 #[.agg #[], .slice ao n cap, .int .u64 x] w fun e w' => ∃ v', e = .returned v' ∧ w'.ownsRow w.heap.size 5 1 v' (n + 8) (olds ++ bv (be8 x)) ∧ Below w.heap.size w w' := by
  obtain ⟨i0, hi, hz0, hz1, hz2⟩ := info_parts info5
  have HN : Hid (ao = none → n = 0 ∧ cap = 0) := hnil
  have b2 := ((Below.refl w.heap.size w).alloc (Nat.le_refl _) (.cells #[] 112)).alloc (by simp) (.cells (bv (be8 x)).toArray 5)
  have HO : Hid (∀ b, ao = some b → ∀ j u, olds[j]? = some u → ((w.alloc (.cells #[] 112)).alloc (.cells (bv (be8 x)).toArray 5)).cell? (b.add j) = some u) := by
    intro b hb j u hj
    have h := holds b hb j u hj
    refine (b2.cell ?_).trans h
    rcases Nat.lt_or_ge (b.add j).block w.heap.size with h' | h'
    · exact h'
    · simp [World.cell?, Array.getElem?_eq_none h'] at h
  clear hnil holds b2
  go_enter Yba.func12, Yba.ntmps12
  go_wp2_with (at_builtin; refine wpList_append_grows _ rfl _ _ 28 rfl 5 i0 (.int .u8 0) 1 1 Yba.underlying28 hi hz0 hz1 hz2 rfl (by decide) ao n cap olds rfl HN.out (by simpa using hlo) HO.out ⟨w.heap.size + 1, 0, none⟩ 8 8 (bv (be8 x)) rfl rfl ?c1 ?c2 ?c3 ?c4 ?c5 ?_)
  case c1 => exact news_at (by simp)
  case c2 => exact bv_one _
  case c3 => omega
  case c4 => unfold maxLen; omega
  case c5 => omega
  intro v' w2 hown' hgrow
  go_wp2
  go_ret
  exact ⟨v', rfl, ownsRow_mono hown' (by omega), (((Below.refl w.heap.size w).alloc (Nat.le_refl _) _).alloc (by simp) _).grown hgrow (by simp; omega) (fun k hk => by cases hk)⟩

set_option maxRecDepth 100000 in
set_option maxHeartbeats 8000000 in
theorem put_any (B n : Nat) (v : Value) (xs : List Value) (x : Int) (w : World) (hx0 : 0 ≤ x) (hx1 : x < 18446744073709551616) (hown : w.ownsRow B 5 1 v n xs) (hB : B ≤ w.heap.size) (hn : n ≤ 16777216) :
    Calls Yba.prog 8 #[v, .int .u64 x] w fun e w' => ∃ v', e = .returned v' ∧ w'.ownsRow B 5 1 v' (n + 8) (xs ++ bv (be8 x)) ∧ Below B w w' := by
  obtain ⟨i0, hi, hz0, hz1, hz2⟩ := info_parts info5
  go_enter Yba.func8, Yba.ntmps8
  go_wp2
  go_loopw [0, 5] (fun v i wr => ∃ k : Nat, k ≤ 8 ∧ (∃ z : Int, i = .int .i64 z ∧ z = 7 - k) ∧ wr.ownsRow B 5 1 v (n + k) (xs ++ bv ((be8 x).take k)) ∧ Below B w wr) (fun _ i _ => (intOf i + 1).toNat)
  case atStart => exact ⟨0, by omega, ⟨_, rfl, rfl⟩, by simpa [bv] using hown, Below.refl _ _⟩
  case round =>
    clear hown
    obtain ⟨k, hk, ⟨z, rfl, hz⟩, hown, hb⟩ := hrel
    have hs := hb.size
    by_cases hlt : k < 8
    · rcases (show k = 0 ∨ k = 1 ∨ k = 2 ∨ k = 3 ∨ k = 4 ∨ k = 5 ∨ k = 6 ∨ k = 7 by omega) with rfl | rfl | rfl | rfl | rfl | rfl | rfl | rfl
      · obtain rfl : z = 7 := by omega
        clear hz
        go_wp2_with (at_builtin; refine wpList_append_own _ rfl _ _ 28 rfl B 5 i0 (.int .u8 0) 1 1 Yba.underlying28 hi hz0 hz1 hz2 rfl (by decide) _ _ _ rfl (hown.alloc _) ⟨wr.heap.size, 0, none⟩ 1 1 (bv [(be8 x)[0]]) rfl rfl (news_at rfl) (bv_one _) (by unfold maxLen; omega) (by omega) (by simp; omega) ?_)
        intro v' w1 hown1 hgrow _
        have hb1 := (hb.alloc (by omega) (.cells (bv [(be8 x)[0]]).toArray 5)).grown hgrow (by simp; omega) (fun j hj => (hown.lt j hj).1)
        have ho1 : w1.ownsRow B 5 1 v' (n + 1) (xs ++ bv ((be8 x).take 1)) := hown1
        clear hown1 hgrow hown
        go_wp2
        go_roundw
        case rel => exact ⟨1, by omega, ⟨_, rfl, by omega⟩, ho1, hb1⟩
        case measure => simp [intOf]
      · obtain rfl : z = 6 := by omega
        clear hz
        go_wp2_with (at_builtin; refine wpList_append_own _ rfl _ _ 28 rfl B 5 i0 (.int .u8 0) 1 1 Yba.underlying28 hi hz0 hz1 hz2 rfl (by decide) _ _ _ rfl (hown.alloc _) ⟨wr.heap.size, 0, none⟩ 1 1 (bv [(be8 x)[1]]) rfl rfl (news_at rfl) (bv_one _) (by unfold maxLen; omega) (by omega) (by simp; omega) ?_)
        intro v' w1 hown1 hgrow _
        have hb1 := (hb.alloc (by omega) (.cells (bv [(be8 x)[1]]).toArray 5)).grown hgrow (by simp; omega) (fun j hj => (hown.lt j hj).1)
        have ho1 : w1.ownsRow B 5 1 v' (n + 2) (xs ++ bv ((be8 x).take 2)) := hown1
        clear hown1 hgrow hown
        go_wp2
        go_roundw
        case rel => exact ⟨2, by omega, ⟨_, rfl, by omega⟩, ho1, hb1⟩
        case measure => simp [intOf]
      · obtain rfl : z = 5 := by omega
        clear hz
        go_wp2_with (at_builtin; refine wpList_append_own _ rfl _ _ 28 rfl B 5 i0 (.int .u8 0) 1 1 Yba.underlying28 hi hz0 hz1 hz2 rfl (by decide) _ _ _ rfl (hown.alloc _) ⟨wr.heap.size, 0, none⟩ 1 1 (bv [(be8 x)[2]]) rfl rfl (news_at rfl) (bv_one _) (by unfold maxLen; omega) (by omega) (by simp; omega) ?_)
        intro v' w1 hown1 hgrow _
        have hb1 := (hb.alloc (by omega) (.cells (bv [(be8 x)[2]]).toArray 5)).grown hgrow (by simp; omega) (fun j hj => (hown.lt j hj).1)
        have ho1 : w1.ownsRow B 5 1 v' (n + 3) (xs ++ bv ((be8 x).take 3)) := hown1
        clear hown1 hgrow hown
        go_wp2
        go_roundw
        case rel => exact ⟨3, by omega, ⟨_, rfl, by omega⟩, ho1, hb1⟩
        case measure => simp [intOf]
      · obtain rfl : z = 4 := by omega
        clear hz
        go_wp2_with (at_builtin; refine wpList_append_own _ rfl _ _ 28 rfl B 5 i0 (.int .u8 0) 1 1 Yba.underlying28 hi hz0 hz1 hz2 rfl (by decide) _ _ _ rfl (hown.alloc _) ⟨wr.heap.size, 0, none⟩ 1 1 (bv [(be8 x)[3]]) rfl rfl (news_at rfl) (bv_one _) (by unfold maxLen; omega) (by omega) (by simp; omega) ?_)
        intro v' w1 hown1 hgrow _
        have hb1 := (hb.alloc (by omega) (.cells (bv [(be8 x)[3]]).toArray 5)).grown hgrow (by simp; omega) (fun j hj => (hown.lt j hj).1)
        have ho1 : w1.ownsRow B 5 1 v' (n + 4) (xs ++ bv ((be8 x).take 4)) := hown1
        clear hown1 hgrow hown
        go_wp2
        go_roundw
        case rel => exact ⟨4, by omega, ⟨_, rfl, by omega⟩, ho1, hb1⟩
        case measure => simp [intOf]
      · obtain rfl : z = 3 := by omega
        clear hz
        go_wp2_with (at_builtin; refine wpList_append_own _ rfl _ _ 28 rfl B 5 i0 (.int .u8 0) 1 1 Yba.underlying28 hi hz0 hz1 hz2 rfl (by decide) _ _ _ rfl (hown.alloc _) ⟨wr.heap.size, 0, none⟩ 1 1 (bv [(be8 x)[4]]) rfl rfl (news_at rfl) (bv_one _) (by unfold maxLen; omega) (by omega) (by simp; omega) ?_)
        intro v' w1 hown1 hgrow _
        have hb1 := (hb.alloc (by omega) (.cells (bv [(be8 x)[4]]).toArray 5)).grown hgrow (by simp; omega) (fun j hj => (hown.lt j hj).1)
        have ho1 : w1.ownsRow B 5 1 v' (n + 5) (xs ++ bv ((be8 x).take 5)) := hown1
        clear hown1 hgrow hown
        go_wp2
        go_roundw
        case rel => exact ⟨5, by omega, ⟨_, rfl, by omega⟩, ho1, hb1⟩
        case measure => simp [intOf]
      · obtain rfl : z = 2 := by omega
        clear hz
        go_wp2_with (at_builtin; refine wpList_append_own _ rfl _ _ 28 rfl B 5 i0 (.int .u8 0) 1 1 Yba.underlying28 hi hz0 hz1 hz2 rfl (by decide) _ _ _ rfl (hown.alloc _) ⟨wr.heap.size, 0, none⟩ 1 1 (bv [(be8 x)[5]]) rfl rfl (news_at rfl) (bv_one _) (by unfold maxLen; omega) (by omega) (by simp; omega) ?_)
        intro v' w1 hown1 hgrow _
        have hb1 := (hb.alloc (by omega) (.cells (bv [(be8 x)[5]]).toArray 5)).grown hgrow (by simp; omega) (fun j hj => (hown.lt j hj).1)
        have ho1 : w1.ownsRow B 5 1 v' (n + 6) (xs ++ bv ((be8 x).take 6)) := hown1
        clear hown1 hgrow hown
        go_wp2
        go_roundw
        case rel => exact ⟨6, by omega, ⟨_, rfl, by omega⟩, ho1, hb1⟩
        case measure => simp [intOf]
      · obtain rfl : z = 1 := by omega
        clear hz
        go_wp2_with (at_builtin; refine wpList_append_own _ rfl _ _ 28 rfl B 5 i0 (.int .u8 0) 1 1 Yba.underlying28 hi hz0 hz1 hz2 rfl (by decide) _ _ _ rfl (hown.alloc _) ⟨wr.heap.size, 0, none⟩ 1 1 (bv [(be8 x)[6]]) rfl rfl (news_at rfl) (bv_one _) (by unfold maxLen; omega) (by omega) (by simp; omega) ?_)
        intro v' w1 hown1 hgrow _
        have hb1 := (hb.alloc (by omega) (.cells (bv [(be8 x)[6]]).toArray 5)).grown hgrow (by simp; omega) (fun j hj => (hown.lt j hj).1)
        have ho1 : w1.ownsRow B 5 1 v' (n + 7) (xs ++ bv ((be8 x).take 7)) := hown1
        clear hown1 hgrow hown
        go_wp2
        go_roundw
        case rel => exact ⟨7, by omega, ⟨_, rfl, by omega⟩, ho1, hb1⟩
        case measure => simp [intOf]
      · obtain rfl : z = 0 := by omega
        clear hz
        go_wp2_with (at_builtin; refine wpList_append_own _ rfl _ _ 28 rfl B 5 i0 (.int .u8 0) 1 1 Yba.underlying28 hi hz0 hz1 hz2 rfl (by decide) _ _ _ rfl (hown.alloc _) ⟨wr.heap.size, 0, none⟩ 1 1 (bv [(be8 x)[7]]) rfl rfl (news_at rfl) (bv_one _) (by unfold maxLen; omega) (by omega) (by simp; omega) ?_)
        intro v' w1 hown1 hgrow _
        have hb1 := (hb.alloc (by omega) (.cells (bv [(be8 x)[7]]).toArray 5)).grown hgrow (by simp; omega) (fun j hj => (hown.lt j hj).1)
        have ho1 : w1.ownsRow B 5 1 v' (n + 8) (xs ++ bv ((be8 x).take 8)) := hown1
        clear hown1 hgrow hown
        go_wp2
        go_roundw
        case rel => exact ⟨8, by omega, ⟨_, rfl, by omega⟩, ho1, hb1⟩
        case measure => simp [intOf]
    · obtain rfl : k = 8 := by omega
      obtain rfl : z = -1 := by omega
      go_wp2
      go_ret
      exact ⟨_, rfl, hown, hb⟩
end Go.Proofs.Ybulkdsfy.Wire
