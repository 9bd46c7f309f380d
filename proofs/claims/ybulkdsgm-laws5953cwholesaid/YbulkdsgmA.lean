/-
  LawS5953CWhole: the contract of ended.
-/
import Derived.Test.YbulkdsgmRows
import Derived.WalkKit
import Derived.WalkSpells
import Derived.WalkLawsBesides
import Derived.Deep.QuietTactic
import Derived.BigQuiet
import Derived.Deep.DeepCutAuto
import Derived.Deep.RegionHeld3
namespace Go.Proofs.Ybulkdsgm
open Go.RowKit

structure G where
  active : Bool
  sent : Int
  taken : Int

/-- The progress of the members, three cells each, in blocks below N. -/
def PRow (N : Nat) (w : World) (a : Option Addr) (ps : List G) : Prop :=
  ps = [] ∨ ∃ b off, a = some ⟨b, off, none⟩ ∧ b < N ∧ ∀ i, (h : i < ps.length) → w.cell? ⟨b, off + i * 3, none⟩ = some (.bool ps[i].active) ∧ w.cell? ⟨b, off + i * 3 + 1, none⟩ = some (.int .i64 ps[i].sent) ∧ w.cell? ⟨b, off + i * 3 + 2, none⟩ = some (.int .i64 ps[i].taken)
theorem PRow.at {N : Nat} {w w' : World} {a : Option Addr} {ps : List G} (h : PRow N w a ps) (hb : Below N w w') (i : Nat) (hi : i < ps.length) : ∃ b off, a = some ⟨b, off, none⟩ ∧ b < N ∧ w'.cell? ⟨b, off + i * 3, none⟩ = some (.bool ps[i].active) ∧ w'.cell? ⟨b, off + i * 3 + 1, none⟩ = some (.int .i64 ps[i].sent) ∧ w'.cell? ⟨b, off + i * 3 + 2, none⟩ = some (.int .i64 ps[i].taken) := by
  rcases h with h | ⟨b, off, ha, hlt, hc⟩
  · subst h; simp at hi
  · obtain ⟨c0, c1, c2⟩ := hc i hi
    exact ⟨b, off, ha, hlt, (hb.cell hlt).trans c0, (hb.cell hlt).trans c1, (hb.cell hlt).trans c2⟩

def tot (f : G → Int) : List G → Int
  | [] => 0
  | g :: l => f g + tot f l
theorem tot_snoc (f : G → Int) (l : List G) (x : G) : tot f (l ++ [x]) = tot f l + f x := by
  induction l with
  | nil => simp [tot]
  | cons g l ih => simp only [List.cons_append, tot, ih]; omega
/-- What was sent and not taken, in wrapping arithmetic. -/
def unh (l : List G) : Int := wrap64 (tot G.sent l - tot G.taken l)
theorem unh_nil : unh [] = 0 := by unfold unh tot wrap64; omega
theorem unh_snoc (l : List G) (x : G) : wrap64 (unh l + wrap64 (x.sent - x.taken)) = unh (l ++ [x]) := by
  unfold unh
  rw [tot_snoc, tot_snoc]
  unfold wrap64
  omega
def sums (f : G → Int) (l : List G) : Int := wrap64 (tot f l)
theorem sums_nil (f : G → Int) : sums f [] = 0 := by unfold sums tot wrap64; omega
theorem sums_snoc (f : G → Int) (l : List G) (x : G) : wrap64 (sums f l + f x) = sums f (l ++ [x]) := by
  unfold sums
  rw [tot_snoc]
  unfold wrap64
  omega
theorem sums_unh (l : List G) : wrap64 (sums G.sent l - sums G.taken l) = unh l := by
  unfold sums unh wrap64
  omega
theorem take_snoc (l : List G) (k : Nat) (h : k < l.length) : l.take (k + 1) = l.take k ++ [l[k]] := List.take_succ_eq_append_getElem h
def ov (z d : Int) : Bool := z == 0 || decide (5000000000 < d)

set_option maxHeartbeats 1000000 in
theorem ended_any (ps : List G) (a : Option Addr) (cap : Nat) (d : Int) (w : World) (hl : ps.length ≤ 1048576) (hr : PRow w.heap.size w a ps) :
    Calls Yba.prog 4 #[.slice a ps.length cap, .int .i64 d] w fun e w' => e = .returned (.tuple #[.bool (ov (unh ps) d), .int .i64 (unh ps)]) ∧ Below w.heap.size w w' := by
  go_enter Yba.func4, Yba.ntmps4
  go_wp2
  go_loopw [6, 11] (fun u i wr => ∃ k : Nat, k ≤ ps.length ∧ i = .int .i64 k ∧ (∃ z : Int, u = .int .i64 z ∧ Hid (z = unh (ps.take k))) ∧ Below w.heap.size w wr) (fun _ i _ => ps.length - (intOf i).toNat)
  case atStart => exact ⟨0, by omega, rfl, ⟨_, rfl, unh_nil.symm⟩, Below.refl _ _⟩
  case round =>
    obtain ⟨k, hk, rfl, ⟨z, rfl, HZ⟩, hb⟩ := hrel
    by_cases hlt : k < ps.length
    · obtain ⟨b, off, rfl, hbb, c0, c1, c2⟩ := hr.at hb k hlt
      go_wp2
      go_roundw
      case rel => exact ⟨k + 1, by omega, by go_num, ⟨_, rfl, by show _ = unh _; rw [take_snoc ps k hlt, ← unh_snoc, HZ.out]⟩, hb.alloc hb.size _⟩
      case measure => simp [intOf]; omega
    · have HE : Hid (z = unh ps) := by show z = unh ps; rw [HZ.out, List.take_of_length_le (by omega)]
      clear HZ
      cases e0 : (z == 0) with
      | true =>
        go_wp2
        go_ret2
        exact ⟨by rw [← HE.out]; simp [ov, e0], hb⟩
      | false =>
        go_wp2
        go_ret2
        exact ⟨by rw [← HE.out]; simp [ov, e0], hb⟩
end Go.Proofs.Ybulkdsgm
