/-
  LawS5952AWhole: the contract of unnumberedPart.
-/
import Derived.Test.YbulkdsfyA
namespace Go.Proofs.Ybulkdsfy
open Go.RowKit

def hit (v s n : Int) (q : Q) : Bool := q.seq == 0 && q.sentIn == v && q.sender == s && q.ss == n

/-- The parts of the data qs, one in block g i for each i, their pointers in block B from its head on. -/
def Parts (w : World) (B : Nat) (g : Nat → Nat) (qs : List Q) : Prop :=
  B < w.heap.size ∧ ∀ i, (h : i < qs.length) → w.cell? ⟨B, i, none⟩ = some (.pointer (some ⟨g i, 0, none⟩)) ∧ PartAt w (g i) qs[i]

/-- 'r' is the place of the first that is hit, or none is. -/
def First (v s n : Int) (qs : List Q) (r : Option Nat) : Prop :=
  match r with
  | none => ∀ i, (h : i < qs.length) → hit v s n qs[i] = false
  | some k => ∃ h : k < qs.length, hit v s n qs[k] = true ∧ ∀ i, (h' : i < k) → hit v s n (qs[i]'(by omega)) = false

theorem miss_step {v s n : Int} {qs : List Q} {k : Nat} {q : Q} (hlt : k < qs.length) (hn : ∀ j, (h : j < k) → (h' : j < qs.length) → hit v s n qs[j] = false) (hq : q = qs[k]) (hh : hit v s n q = false) :
    ∀ j, (h : j < k + 1) → (h' : j < qs.length) → hit v s n qs[j] = false := by
  intro j h h'
  rcases Nat.lt_or_ge j k with c | c
  · exact hn j c h'
  · obtain rfl : j = k := by omega
    rw [← hq]; exact hh

set_option maxRecDepth 20000 in
set_option maxHeartbeats 2000000 in
theorem unnumbered_any (qs : List Q) (mb vb B : Nat) (g : Nat → Nat) (v s n : Int) (w : World) (hl : qs.length ≤ 1048576) (hp : w.cell? ⟨mb, 372, none⟩ = some (.slice (some ⟨B, 0, none⟩) qs.length qs.length))
    (hv : w.cell? ⟨mb, 7, none⟩ = some (.pointer (some ⟨vb, 0, none⟩))) (hvi : w.cell? ⟨vb, 0, none⟩ = some (.int .u64 v)) (hP : Parts w B g qs) :
    Calls Yba.prog 6 #[.pointer (some ⟨mb, 0, none⟩), .int .i64 s, .int .u64 n] w fun e w' => (∃ r, First v s n qs r ∧ e = .returned (.pointer (r.map fun i => ⟨g i, 0, none⟩))) ∧ ∃ d, w' = w.drewN d := by
  go_enter Yba.func6, Yba.ntmps6
  go_wp2
  go_loopw [14] (fun i wr => ∃ k : Nat, k ≤ qs.length ∧ i = .int .i64 k ∧ (∀ j, (h : j < k) → (h' : j < qs.length) → hit v s n qs[j] = false) ∧ ∃ d, wr = w.drewN d) (fun i _ => qs.length - (intOf i).toNat)
  case atStart => exact ⟨0, by omega, rfl, fun j h => by omega, 0, rfl⟩
  case round =>
    obtain ⟨k, hk, rfl, hn, d, rfl⟩ := hrel
    by_cases hlt : k < qs.length
    · obtain ⟨c0, hg, h0, h1, h2, h3, h4, h5, h6, h7, h8, h9⟩ := hP.2 k hlt
      have HN : Hid (∀ j, (h : j < k) → (h' : j < qs.length) → hit v s n qs[j] = false) := hn
      clear hn hP h3 h4 h6 h7 h8 h9
      obtain ⟨q, hq⟩ : ∃ q, q = qs[k] := ⟨_, rfl⟩
      rw [← hq] at h0 h1 h2 h5
      have HQ : Hid (q = qs[k]) := hq
      clear hq
      cases e0 : (q.seq == 0) with
      | false =>
        go_wp2
        go_quiet (fail)
        go_wp2
        go_roundw
        case rel => exact ⟨k + 1, by omega, by go_num, miss_step hlt HN.out HQ.out (by simp [hit, e0]), _, rfl⟩
        case measure => simp [intOf]; omega
      | true =>
        cases e1 : (q.sentIn == v) with
        | false =>
          go_wp2
          go_quiet (fail)
          go_wp2
          go_roundw
          case rel => exact ⟨k + 1, by omega, by go_num, miss_step hlt HN.out HQ.out (by simp [hit, e0, e1]), _, rfl⟩
          case measure => simp [intOf]; omega
        | true =>
          cases e2 : (q.sender == s) with
          | false =>
            go_wp2
            go_quiet (fail)
            go_wp2
            go_roundw
            case rel => exact ⟨k + 1, by omega, by go_num, miss_step hlt HN.out HQ.out (by simp [hit, e0, e1, e2]), _, rfl⟩
            case measure => simp [intOf]; omega
          | true =>
            cases e3 : (q.ss == n) with
            | false =>
              go_wp2
              go_quiet (fail)
              go_wp2
              go_roundw
              case rel => exact ⟨k + 1, by omega, by go_num, miss_step hlt HN.out HQ.out (by simp [hit, e0, e1, e2, e3]), _, rfl⟩
              case measure => simp [intOf]; omega
            | true =>
              go_wp2
              go_quiet (fail)
              go_wp2
              go_ret
              exact ⟨⟨some k, ⟨hlt, by rw [← HQ.out]; simp [hit, e0, e1, e2, e3], fun i h' => HN.out i h' (by omega)⟩, rfl⟩, _, World.drewN_drewN _ _ _⟩
    · go_wp2
      go_ret
      exact ⟨⟨none, fun i h => hn i (by omega) h, rfl⟩, _, rfl⟩
end Go.Proofs.Ybulkdsfy
