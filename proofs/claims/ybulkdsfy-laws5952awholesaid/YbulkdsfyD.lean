/-
  LawS5952AWhole: the law's walk.
-/
import Derived.Test.YbulkdsfyC
namespace Go.Proofs.Ybulkdsfy
open Go.RowKit
attribute [local go_sem] Yba.ptrSame

/-- Of the places from k on, y is the first that is hit; -1 where none is. -/
def Late (v s n : Int) (qs : List Q) (k : Nat) (y : Int) : Prop :=
  (y = -1 ∧ ∀ i, k ≤ i → (h : i < qs.length) → hit v s n qs[i] = false) ∨
  ∃ j : Nat, y = j ∧ k ≤ j ∧ ∃ h : j < qs.length, hit v s n qs[j] = true ∧ ∀ i, k ≤ i → (h' : i < j) → hit v s n (qs[i]'(by omega)) = false
theorem Late.miss {v s n : Int} {qs : List Q} {m : Nat} {y : Int} {q : Q} (h : Late v s n qs (m + 1) y) (hlt : m < qs.length) (hq : q = qs[m]) (hh : hit v s n q = false) : Late v s n qs m y := by
  subst hq
  rcases h with ⟨h1, h2⟩ | ⟨j, h1, h2, h3, h4, h5⟩
  · refine .inl ⟨h1, fun i hi hl => ?_⟩
    rcases Nat.lt_or_ge m i with c | c
    · exact h2 i (by omega) hl
    · obtain rfl : i = m := by omega
      exact hh
  · refine .inr ⟨j, h1, by omega, h3, h4, fun i hi hj => ?_⟩
    rcases Nat.lt_or_ge m i with c | c
    · exact h5 i (by omega) hj
    · obtain rfl : i = m := by omega
      exact hh
theorem Late.hits {v s n : Int} {qs : List Q} {m : Nat} (hlt : m < qs.length) (hh : hit v s n qs[m] = true) : Late v s n qs m m :=
  .inr ⟨m, rfl, Nat.le_refl _, hlt, hh, fun i h1 h2 => by omega⟩
theorem Late.first {v s n : Int} {qs : List Q} {y : Int} {r : Option Nat} (h : Late v s n qs 0 y) (hf : First v s n qs r) : (y = -1 ∧ r = none) ∨ ∃ j : Nat, y = j ∧ r = some j ∧ j < qs.length := by
  rcases h with ⟨h1, h2⟩ | ⟨j, h1, h2, h3, h4, h5⟩
  · rcases r with _ | k
    · exact .inl ⟨h1, rfl⟩
    · obtain ⟨hk, hh, _⟩ := hf
      rw [h2 k (Nat.zero_le _) hk] at hh
      cases hh
  · rcases r with _ | k
    · rw [hf j h3] at h4; cases h4
    · obtain ⟨hk, hh, hn⟩ := hf
      refine .inr ⟨j, h1, ?_, h3⟩
      rcases Nat.lt_trichotomy j k with c | c | c
      · rw [hn j c] at h4; cases h4
      · rw [c]
      · rw [h5 k (Nat.zero_le _) c] at hh; cases hh

set_option maxRecDepth 20000 in
set_option maxHeartbeats 2000000 in
theorem law_main (qs : List Q) (a : Option Addr) (cap : Nat) (v s n : Int) (w : World) (hl : qs.length ≤ 1048576) (hr : QRow w.heap.size w a qs) :
    Calls Yba.prog 3 #[.int .u64 v, .int .i64 s, .int .u64 n, .slice a qs.length cap] w fun e w' => e = .returned (.bool true) ∧ Below w.heap.size w w' := by
  obtain ⟨i27, hi27, hz0, hz1, hz2⟩ := info_parts Yba.info27
  go_enter Yba.func3, Yba.ntmps3
  go_wp2_with (at_make; refine wpList_make_full _ rfl _ _ 24 rfl w.heap.size 27 i27 _ 1 Yba.underlying24 hi27 hz0 hz1 .i64 .i64 _ _ qs.length rfl rfl rfl rfl (by rw [hz2]; omega) (by unfold maxLen; omega) (Nat.le_refl _) ?_; intro w1 hown hgr)
  go_loopw [26] (fun i wr => ∃ k : Nat, k ≤ qs.length ∧ i = .int .i64 k ∧ (∃ g, LInv w.heap.size qs k g wr) ∧ Below w.heap.size w wr) (fun i _ => qs.length - (intOf i).toNat)
  case atStart => exact ⟨0, by omega, rfl, ⟨_, LInv.start hown⟩, (Below.refl _ _).grown hgr (Nat.le_refl _) (fun _ h => by cases h)⟩
  case round =>
    clear hown hgr
    obtain ⟨k, hk, rfl, ⟨g, hI⟩, hbe⟩ := hrel
    by_cases hlt : k < qs.length
    · obtain ⟨b, off, rfl, hb, d0, d1, d2, d3, d4⟩ := hr.at hbe k hlt
      obtain ⟨g', hI'⟩ := hI.step hlt
      have HI : Hid (LInv w.heap.size qs (k + 1) g' _) := hI'
      have p0 := hI.2.2.1 k (Nat.le_refl _) hlt
      have p1 := hI.2.2.2 k
      have hB := hI.1
      clear hI hI'
      go_wp2
      go_roundw
      case rel => exact ⟨k + 1, by omega, by go_num, ⟨_, HI.out⟩, ((hbe.setCell (p := ⟨w.heap.size, k, none⟩) (Nat.le_refl w.heap.size) _).alloc (by simp; omega) _).alloc (by simp; omega) _⟩
      case measure => simp [intOf]; omega
    · obtain rfl : k = qs.length := by omega
      have hPt : Hid (Parts wr w.heap.size g qs) := hI.parts
      have hB := hI.1
      clear hI
      obtain ⟨cs, m1, m2, m3⟩ := mem_ex wr.heap.size w.heap.size qs.length
      have M1 : Hid (Yba.prog.built 98 [(2, .pointer (some ⟨wr.heap.size, 0, none⟩)), (55, .slice (some ⟨w.heap.size, 0, none⟩) qs.length qs.length)] = some cs) := m1
      clear m1
      go_wp2_with ((refine wpList_mem rfl (.tmp 52) (.tmp 53) rfl (.pointer (some ⟨wr.heap.size, 0, none⟩)) (.slice (some ⟨w.heap.size, 0, none⟩) qs.length qs.length) cs M1 rfl rfl ?_))
      clear M1
      have f1 : ((wr.alloc (.cells #[.int .u64 v, .slice none 0 0, .slice none 0 0, .int .u32 0, .slice none 0 0, .map none, .int .i64 0, .bool false] 42)).alloc (.cells cs 98)).cell? ⟨wr.heap.size + 1, 372, none⟩ = some (.slice (some ⟨w.heap.size, 0, none⟩) qs.length qs.length) := by
        rw [World.cell?_alloc_at _ _ _ _ (by simp)]; exact m3
      have f2 : ((wr.alloc (.cells #[.int .u64 v, .slice none 0 0, .slice none 0 0, .int .u32 0, .slice none 0 0, .map none, .int .i64 0, .bool false] 42)).alloc (.cells cs 98)).cell? ⟨wr.heap.size + 1, 7, none⟩ = some (.pointer (some ⟨wr.heap.size, 0, none⟩)) := by
        rw [World.cell?_alloc_at _ _ _ _ (by simp)]; exact m2
      have f3 : ((wr.alloc (.cells #[.int .u64 v, .slice none 0 0, .slice none 0 0, .int .u32 0, .slice none 0 0, .map none, .int .i64 0, .bool false] 42)).alloc (.cells cs 98)).cell? ⟨wr.heap.size, 0, none⟩ = some (.int .u64 v) := by
        rw [World.cell?_alloc_past _ _ _ (by simp), World.cell?_alloc_at _ _ _ _ rfl]; rfl
      have fb := ((Below.refl wr.heap.size wr).alloc (Nat.le_refl _) (.cells #[.int .u64 v, .slice none 0 0, .slice none 0 0, .int .u32 0, .slice none 0 0, .map none, .int .i64 0, .bool false] 42)).alloc (by simp) (.cells cs 98)
      have fs : wr.heap.size + 1 < ((wr.alloc (.cells #[.int .u64 v, .slice none 0 0, .slice none 0 0, .int .u32 0, .slice none 0 0, .map none, .int .i64 0, .bool false] 42)).alloc (.cells cs 98)).heap.size := by simp
      clear m2 m3
      generalize ((wr.alloc (.cells #[.int .u64 v, .slice none 0 0, .slice none 0 0, .int .u32 0, .slice none 0 0, .map none, .int .i64 0, .bool false] 42)).alloc (.cells cs 98)) = W at *
      have hPW := hPt.out.keep fb
      refine (unnumbered_any qs (wr.heap.size + 1) wr.heap.size w.heap.size g v s n W hl f1 f2 f3 hPW).mono ?_
      rintro e w2 ⟨⟨r, hF, rfl⟩, d, rfl⟩
      have hbW : Below w.heap.size w (W.drewN d) := below_drewN (hbe.trans (fb.mono hbe.size)) d
      have hPd : Hid (Parts (W.drewN d) w.heap.size g qs) := hPW.keep (below_drewN (Below.refl _ _) d)
      have F1 : (W.drewN d).cell? ⟨wr.heap.size + 1, 372, none⟩ = some (.slice (some ⟨w.heap.size, 0, none⟩) qs.length qs.length) := f1
      have F2 : (W.drewN d).cell? ⟨wr.heap.size + 1, 7, none⟩ = some (.pointer (some ⟨wr.heap.size, 0, none⟩)) := f2
      have F3 : (W.drewN d).cell? ⟨wr.heap.size, 0, none⟩ = some (.int .u64 v) := f3
      have hFsz : wr.heap.size + 1 < (W.drewN d).heap.size := fs
      have HF : Hid (First v s n qs r) := hF
      clear f1 f2 f3 fs hPW fb hPt hbe hF
      generalize W.drewN d = X at *
      generalize wr.heap.size = vb at *
      go_wp2
      go_loopw [14, 15] (fun t i wr => ∃ k : Nat, k ≤ qs.length ∧ (∃ z : Int, i = .int .i64 z ∧ z = (k : Int) - 1) ∧ (∃ y : Int, t = .int .i64 y ∧ Late v s n qs k y) ∧ Below X.heap.size X wr) (fun _ i _ => (intOf i + 1).toNat)
      case atStart => exact ⟨qs.length, by omega, ⟨_, rfl, rfl⟩, ⟨_, rfl, .inl ⟨rfl, fun i h1 h2 => by omega⟩⟩, Below.refl _ _⟩
      case round =>
        obtain ⟨k, hk, ⟨z, rfl, hz⟩, ⟨y, rfl, hL⟩, hb2⟩ := hrel
        have HL : Hid (Late v s n qs k y) := hL
        clear hL
        rcases k with _ | m
        · obtain rfl : z = -1 := by omega
          clear hz
          go_upto_if 94 with fail
          go_cut [] (fun w3 => w3 = wr)
          case first =>
            rcases HL.out.first HF.out with ⟨rfl, rfl⟩ | ⟨j, rfl, rfl, hj⟩
            · go_wp2
              go_meet
              case rel => rfl
            · have cj := ((hPd.out.keep hb2).2 j hj).1
              have hji : (j : Int) < (qs.length : Int) := by omega
              go_wp2
              go_meet
              case rel => rfl
          case rest =>
            subst hcut
            have G1 := (hb2.cell (p := ⟨vb + 1, 372, none⟩) hFsz).trans F1
            have G2 := (hb2.cell (p := ⟨vb + 1, 7, none⟩) hFsz).trans F2
            have G3 := (hb2.cell (p := ⟨vb, 0, none⟩) (Nat.lt_of_succ_lt hFsz)).trans F3
            go_wp2
            clear G1 G2 G3
            go_loopw [131] (fun i wr => ∃ k : Nat, k ≤ qs.length ∧ i = .int .i64 k ∧ Below X.heap.size X wr) (fun i _ => qs.length - (intOf i).toNat)
            case atStart => exact ⟨0, by omega, rfl, hb2⟩
            case round =>
              clear hb2
              obtain ⟨k, hk, rfl, hb2⟩ := hrel
              by_cases hlt : k < qs.length
              · obtain ⟨b, off, rfl, hb, d0, d1, d2, d3, d4⟩ := hr.at (hbW.trans (hb2.mono hbW.size)) k hlt
                obtain ⟨q, hq⟩ : ∃ q, q = qs[k] := ⟨_, rfl⟩
                have G1 := (hb2.cell (p := ⟨vb + 1, 372, none⟩) hFsz).trans F1
                obtain ⟨ck, hpk⟩ := (hPd.out.keep hb2).2 k hlt
                rw [← hq] at d0 d1 d2 d3 d4 hpk
                have hki : (k : Int) < (qs.length : Int) := by omega
                have HPA : Hid (PartAt wr.drew (g k) q) := hpk
                have hbs : b < wr.heap.size := Nat.lt_of_lt_of_le hb (Nat.le_trans hbW.size hb2.size)
                have hms : vb + 1 < wr.heap.size := Nat.lt_of_lt_of_le hFsz hb2.size
                have hBs : w.heap.size < wr.heap.size := (hPd.out.keep hb2).1
                clear hpk hq
                go_wp2
                go_region_held (fun w' => w'.cell? ⟨vb + 1, 372, none⟩ = some (.slice (some ⟨w.heap.size, 0, none⟩) qs.length qs.length) ∧ w'.cell? ⟨w.heap.size, k, none⟩ = some (.pointer (some ⟨g k, 0, none⟩)) ∧ w'.cell? ⟨b, off + k * 5, none⟩ = some (.int .u64 q.seq) ∧ w'.cell? ⟨b, off + k * 5 + 1, none⟩ = some (.int .i64 q.sender) ∧ w'.cell? ⟨b, off + k * 5 + 2, none⟩ = some (.int .u64 q.ss) ∧ w'.cell? ⟨b, off + k * 5 + 3, none⟩ = some (.int .u64 q.sentIn) ∧ w'.cell? ⟨b, off + k * 5 + 4, none⟩ = some (.int .i64 q.size)) (go_keep)
                  ((go_at_call 7; refine (same_any q (g k) _ HPA.out).mono ?_; rintro e w' ⟨rfl, d5, rfl⟩))
                all_goals
                  go_wp2
                  go_roundw
                  case rel => exact ⟨k + 1, by omega, by go_num, below_drewN (hb2.alloc hb2.size _) _⟩
                  case measure => simp [intOf]; omega
              · go_wp2
                go_ret
                exact ⟨rfl, hbW.trans (hb2.mono hbW.size)⟩
        · obtain rfl : z = (m : Int) := by omega
          clear hz
          have hlt : m < qs.length := by omega
          obtain ⟨b, off, rfl, hb, d0, d1, d2, d3, d4⟩ := hr.at (hbW.trans (hb2.mono hbW.size)) m hlt
          obtain ⟨q, hq⟩ : ∃ q, q = qs[m] := ⟨_, rfl⟩
          rw [← hq] at d0 d1 d2 d3 d4
          have HQ : Hid (q = qs[m]) := hq
          clear hq
          cases e0 : (q.seq == 0) with
          | false =>
            go_wp2
            go_roundw
            case rel => exact ⟨m, by omega, ⟨_, rfl, by omega⟩, ⟨_, rfl, HL.out.miss hlt HQ.out (by simp [hit, e0])⟩, hb2.alloc hb2.size _⟩
            case measure => simp [intOf]
          | true =>
            cases e1 : (q.sentIn == v) with
            | false =>
              go_wp2
              go_roundw
              case rel => exact ⟨m, by omega, ⟨_, rfl, by omega⟩, ⟨_, rfl, HL.out.miss hlt HQ.out (by simp [hit, e0, e1])⟩, hb2.alloc hb2.size _⟩
              case measure => simp [intOf]
            | true =>
              cases e2 : (q.sender == s) with
              | false =>
                go_wp2
                go_roundw
                case rel => exact ⟨m, by omega, ⟨_, rfl, by omega⟩, ⟨_, rfl, HL.out.miss hlt HQ.out (by simp [hit, e0, e1, e2])⟩, hb2.alloc hb2.size _⟩
                case measure => simp [intOf]
              | true =>
                cases e3 : (q.ss == n) with
                | false =>
                  go_wp2
                  go_roundw
                  case rel => exact ⟨m, by omega, ⟨_, rfl, by omega⟩, ⟨_, rfl, HL.out.miss hlt HQ.out (by simp [hit, e0, e1, e2, e3])⟩, hb2.alloc hb2.size _⟩
                  case measure => simp [intOf]
                | true =>
                  go_wp2
                  go_roundw
                  case rel => exact ⟨m, by omega, ⟨_, rfl, by omega⟩, ⟨_, rfl, Late.hits hlt (by rw [← HQ.out]; simp [hit, e0, e1, e2, e3])⟩, hb2.alloc hb2.size _⟩
                  case measure => simp [intOf]
end Go.Proofs.Ybulkdsfy
