/-
  LawS5955AWhole: the callees' contracts.
-/
import Derived.Test.YbulkdshoRows
import Derived.WalkKit
import Derived.WalkSpells
import Derived.WalkLawsBesides
import Derived.Deep.QuietTactic
import Derived.BigQuiet
import Derived.Deep.DeepCutAuto
import Derived.Laws.CopyOwn
import Derived.LaidEql
namespace Go.Proofs.Ybulkdsho.Sel
open Go.RowKit

theorem wrapU_bd (n : Int) : 0 ≤ IntKind.u64.wrap n ∧ IntKind.u64.wrap n < 18446744073709551616 := by
  rw [show IntKind.u64.wrap n = n % 18446744073709551616 by simp [IntKind.wrap, IntKind.bits, IntKind.signed]]
  omega
theorem wrapU_id (n : Int) (h0 : 0 ≤ n) (h1 : n < 18446744073709551616) : IntKind.u64.wrap n = n := by
  rw [show IntKind.u64.wrap n = n % 18446744073709551616 by simp [IntKind.wrap, IntKind.bits, IntKind.signed]]
  omega

set_option maxRecDepth 20000 in
set_option maxHeartbeats 1000000 in
theorem mul64_any (x y : Int) (w : World) :
    Calls Yba.prog 6 #[.int .u64 x, .int .u64 y] w fun e w' => (∃ hi lo, e = .returned (.tuple #[.int .u64 hi, .int .u64 lo]) ∧ Hid (lo = IntKind.u64.wrap (x * y)) ∧ 0 ≤ lo ∧ lo < 18446744073709551616) ∧ w' = w := by
  go_enter Yba.func6, Yba.ntmps6
  go_wp2
  go_ret2
  exact ⟨⟨_, _, rfl, rfl, (wrapU_bd _).1, (wrapU_bd _).2⟩, rfl⟩

/-- How many of z jobs are to be taken. -/
def tk (p z : Int) : Int := IntKind.u64.wrap (z * IntKind.u64.wrap p) / 100
theorem tk_walk (p z : Int) : IntKind.u64.wrap ((IntKind.u64.wrap (z * IntKind.u64.wrap p)).tdiv 100) = tk p z := by
  have h := wrapU_bd (z * IntKind.u64.wrap p)
  unfold tk
  rw [Int.tdiv_eq_ediv_of_nonneg h.1]
  exact wrapU_id _ (by omega) (by omega)

/-- The numbers of a slice of 64 bits, in blocks below N. -/
def URow (N : Nat) (w : World) (a : Option Addr) (zs : List Int) : Prop :=
  zs = [] ∨ ∃ b off, a = some ⟨b, off, none⟩ ∧ b < N ∧ ∀ i, (h : i < zs.length) → w.cell? ⟨b, off + i, none⟩ = some (.int .u64 zs[i])
theorem URow.at {N : Nat} {w w' : World} {a : Option Addr} {zs : List Int} (h : URow N w a zs) (hb : Below N w w') (i : Nat) (hi : i < zs.length) : ∃ b off, a = some ⟨b, off, none⟩ ∧ b < N ∧ w'.cell? ⟨b, off + i, none⟩ = some (.int .u64 zs[i]) := by
  rcases h with h | ⟨b, off, ha, hlt, hc⟩
  · subst h; simp at hi
  · exact ⟨b, off, ha, hlt, (hb.cell hlt).trans (hc i hi)⟩
theorem info23 : (Yba.prog.info? 23).map (fun i => (i.zero, i.size, i.bytes)) = some (some (.int .u64 0), 1, 8) := by kernel_rfl

theorem cell_of_block {w : World} {B i : Nat} {c : Array Value} {t : TypeId} {fr : Nat × Nat} (h : w.heap[B]? = some (.cells c t fr)) : w.cell? ⟨B, i, none⟩ = c[i]? := by
  simp [World.cell?, h]
theorem lt_of_block {w : World} {B : Nat} {o : Obj} (h : w.heap[B]? = some o) : B < w.heap.size := by
  rcases Nat.lt_or_ge B w.heap.size with h' | h'
  · exact h'
  · rw [Array.getElem?_eq_none h'] at h; cases h
theorem setCell_block {w : World} {B i : Nat} {c : Array Value} {t : TypeId} {fr : Nat × Nat} {v : Value} (h : w.heap[B]? = some (.cells c t fr)) : (w.setCell ⟨B, i, none⟩ v).heap[B]? = some (.cells (c.setIfInBounds i v) t fr) := by
  simp [World.setCell, Array.getElem?_modify, h]
/-- k of the shares are laid into block B. -/
def Fill (B : Nat) (p : Int) (zs : List Int) (k : Nat) (wr : World) : Prop :=
  ∃ c : Array Value, wr.heap[B]? = some (.cells c 23 (0, 0)) ∧ c.size = zs.length ∧ ∀ i, (h : i < zs.length) → i < k → c[i]? = some (.int .u64 (tk p zs[i]))
theorem Fill.there {B k : Nat} {p : Int} {zs : List Int} {wr : World} (h : Fill B p zs k wr) (i : Nat) (hi : i < zs.length) : ∃ v, wr.cell? ⟨B, i, none⟩ = some v := by
  obtain ⟨c, hb, hs, _⟩ := h
  exact ⟨c[i]'(by omega), by rw [cell_of_block hb, Array.getElem?_eq_getElem]⟩
theorem Fill.free {B k : Nat} {p : Int} {zs : List Int} {wr : World} (h : Fill B p zs k wr) (i : Nat) : wr.frozen? ⟨B, i, none⟩ = false := by
  obtain ⟨c, hb, _⟩ := h
  simp [World.frozen?, hb]
theorem Fill.lt {B k : Nat} {p : Int} {zs : List Int} {wr : World} (h : Fill B p zs k wr) : B < wr.heap.size := by
  obtain ⟨c, hb, _⟩ := h
  exact lt_of_block hb
theorem Fill.step {B k : Nat} {p : Int} {zs : List Int} {wr : World} (h : Fill B p zs k wr) (hk : k < zs.length) : Fill B p zs (k + 1) (wr.setCell ⟨B, k, none⟩ (.int .u64 (tk p zs[k]))) := by
  obtain ⟨c, hb, hs, hc⟩ := h
  refine ⟨_, setCell_block hb, by simpa using hs, fun i hi hik => ?_⟩
  by_cases e : i = k
  · subst e
    rw [Array.getElem?_setIfInBounds_self_of_lt (by omega)]
  · rw [Array.getElem?_setIfInBounds_ne (by omega)]
    exact hc i hi (by omega)
theorem Fill.heap {B k : Nat} {p : Int} {zs : List Int} {wr wr' : World} (h : Fill B p zs k wr) (he : wr'.heap[B]? = wr.heap[B]?) : Fill B p zs k wr' := by
  obtain ⟨c, hb, r⟩ := h
  exact ⟨c, he.trans hb, r⟩
theorem Fill.made {B N : Nat} {p : Int} {zs : List Int} {w : World} {xs : List Value} (h : w.ownsRow N 23 1 (.slice (some ⟨B, 0, none⟩) zs.length zs.length) zs.length xs) : Fill B p zs 0 w := by
  obtain ⟨_, ⟨h, _⟩ | ⟨g', cp, cur, e1, _, e3, _, _, e6, _⟩⟩ := h
  · cases h
  · injection e1 with e1 _ e2
    simp at e1
    subst e1 e2
    exact ⟨cur, e3, by simpa using e6, fun i _ h => by omega⟩

set_option maxRecDepth 20000 in
set_option maxHeartbeats 1000000 in
theorem newSel_any (zs : List Int) (a : Option Addr) (cap : Nat) (p s : Int) (w : World) (hl : zs.length ≤ 1048576) (hr : URow w.heap.size w a zs) :
    Calls Yba.prog 5 #[.slice a zs.length cap, .int .i64 p, .int .u64 s] w fun e w' => ∃ g T, e = .returned (.pointer (some ⟨g, 0, none⟩)) ∧ g < w'.heap.size ∧ w.heap.size ≤ T ∧ Fill T p zs zs.length w' ∧
      w'.cell? ⟨g, 0, none⟩ = some (.int .u64 s) ∧ w'.cell? ⟨g, 1, none⟩ = some (.slice a zs.length cap) ∧ w'.cell? ⟨g, 2, none⟩ = some (.slice (some ⟨T, 0, none⟩) zs.length zs.length) ∧ Below w.heap.size w w' := by
  obtain ⟨i0, hi, hz0, hz1, hz2⟩ := info_parts info23
  go_enter Yba.func5, Yba.ntmps5
  go_wp2_with (at_make; refine wpList_make_full _ rfl _ _ 22 rfl w.heap.size 23 i0 _ 1 Yba.underlying22 hi hz0 hz1 .i64 .i64 _ _ zs.length rfl rfl rfl rfl (by rw [hz2]; omega) (by unfold maxLen; omega) (Nat.le_refl _) ?_; intro w1 hown1 hgr1)
  go_loopw [15] (fun i wr => ∃ k : Nat, k ≤ zs.length ∧ i = .int .i64 k ∧ Fill w.heap.size p zs k wr ∧ Below w.heap.size w wr) (fun i _ => zs.length - (intOf i).toNat)
  case atStart => exact ⟨0, by omega, rfl, Fill.made hown1, (Below.refl _ _).grown hgr1 (Nat.le_refl _) (fun _ h => by cases h)⟩
  case round =>
    clear hown1 hgr1
    obtain ⟨k, hk, rfl, hF, hb⟩ := hrel
    by_cases hlt : k < zs.length
    · obtain ⟨b, off, rfl, hbb, c0⟩ := hr.at hb k hlt
      obtain ⟨u, x0⟩ := hF.there k hlt
      have f0 := hF.free k
      have HF : Hid (Fill w.heap.size p zs k wr) := hF
      clear hF
      go_wp2
      go_roundw
      case rel => exact ⟨k + 1, by omega, by go_num, by rw [tk_walk]; exact HF.out.step hlt, hb.setCell (p := ⟨w.heap.size, k, none⟩) (Nat.le_refl w.heap.size) _⟩
      case measure => simp [intOf]; omega
    · obtain rfl : k = zs.length := by omega
      have HF : Hid (Fill w.heap.size p zs zs.length wr) := hF
      clear hF
      go_wp2
      go_ret
      refine ⟨_, w.heap.size, rfl, by simp, Nat.le_refl _, HF.out.heap (Below.heap_alloc _ _ _ HF.out.lt), by simp, by simp, by simp, hb.alloc hb.size _⟩
end Go.Proofs.Ybulkdsho.Sel
