/-
  LawS5955AWhole: the law's walk.
-/
import Derived.Test.YbulkdshoB
namespace Go.Proofs.Ybulkdsho.Sel
open Go.RowKit

theorem made_block {w : World} {B g n : Nat} {xs : List Value} (h : w.ownsRow B 23 1 (.slice (some ⟨g, 0, none⟩) n n) n xs) : ∃ cur : List Value, w.heap[g]? = some (.cells cur.toArray 23 (0, 0)) ∧ cur.length = n := by
  obtain ⟨_, ⟨h, _⟩ | ⟨g', cp, cur, e1, _, e3, _, _, e6, _⟩⟩ := h
  · cases h
  · injection e1 with e1 _ e2
    simp at e1
    subst e1 e2
    exact ⟨cur.toList, by simpa using e3, by simpa using e6⟩
theorem below_of_grown {w w' : World} (h : w.grownBy w' none) : Below w.heap.size w w' := (Below.refl _ _).grown h (Nat.le_refl _) (fun _ h => by cases h)
theorem splice_whole (L xs : List Value) (h : L.length = xs.length) : splice L 0 xs = xs := by
  unfold splice
  rw [List.drop_eq_nil_of_le (by omega)]
  simp
theorem URow.keep {w w' : World} {N : Nat} {a : Option Addr} {zs : List Int} (h : URow w.heap.size w a zs) (hb : Below w.heap.size w w') (hN : w.heap.size ≤ N) : URow N w' a zs := by
  rcases h with h | ⟨b, off, ha, hlt, hc⟩
  · exact .inl h
  · exact .inr ⟨b, off, ha, by omega, fun i hi => (hb.cell hlt).trans (hc i hi)⟩
theorem urow_cells {w : World} {N : Nat} {a : Option Addr} {zs : List Int} (h : URow N w a zs) (hp : 0 < zs.length) : ∃ ad, a = some ad ∧ ∀ j v, (zs.map (Value.int .u64))[j]? = some v → w.cell? (ad.add j) = some v := by
  rcases h with h | ⟨b, off, ha, _, hc⟩
  · subst h; simp at hp
  · refine ⟨_, ha, fun j v hj => ?_⟩
    rw [List.getElem?_map] at hj
    cases hg : zs[j]? with
    | none => rw [hg] at hj; simp at hj
    | some x =>
      rw [hg] at hj
      simp at hj
      obtain ⟨hlt, hx⟩ := List.getElem?_eq_some_iff.1 hg
      subst hj
      have := hc j hlt
      rw [hx] at this
      cases j <;> simpa [Addr.add] using this
theorem urow_of_block {w : World} {g : Nat} {zs : List Int} {t : TypeId} (h : w.heap[g]? = some (.cells (zs.map (Value.int .u64)).toArray t (0, 0))) : URow w.heap.size w (some ⟨g, 0, none⟩) zs := by
  refine .inr ⟨g, 0, rfl, lt_of_block h, fun i hi => ?_⟩
  simp [World.cell?, h, hi]
theorem Fill.row {B : Nat} {p : Int} {zs : List Int} {wr : World} (h : Fill B p zs zs.length wr) (i : Nat) (hi : i < zs.length) : wr.cell? ⟨B, i, none⟩ = some (.int .u64 (tk p zs[i])) := by
  obtain ⟨c, hb, _, hc⟩ := h
  rw [cell_of_block hb]
  exact hc i hi hi
theorem Fill.keep {B k : Nat} {p : Int} {zs : List Int} {w w' : World} (h : Fill B p zs k w) (hb : Below w.heap.size w w') : Fill B p zs k w' := h.heap (hb.block _ h.lt)

attribute [local go_sem] eqlNil22 ptrSame
set_option maxRecDepth 20000 in
set_option maxHeartbeats 2000000 in
theorem law_main (zs : List Int) (a0 : Option Addr) (cap0 : Nat) (p s : Int) (w : World) (hl : zs.length ≤ 1048576) (hr : URow w.heap.size w a0 zs) (hnil : a0 = none → zs = [] ∧ cap0 = 0) :
    Calls Yba.prog 3 #[.slice a0 zs.length cap0, .int .i64 p, .int .u64 s] w fun e w' => e = .returned (.bool true) ∧ Below w.heap.size w w' := by
  have HN : Hid (a0 = none → zs = [] ∧ cap0 = 0) := hnil
  clear hnil
  obtain ⟨i0, hi, hz0, hz1, hz2⟩ := info_parts info23
  go_enter Yba.func3, Yba.ntmps3
  go_upto_if 19 with fail
  go_cut [7] (fun v wc => ∃ av cv, v = .slice av zs.length cv ∧ URow wc.heap.size wc av zs ∧ Below w.heap.size w wc)
  case first =>
    rcases a0 with _ | x
    · go_wp2
      go_meet
      case rel => exact ⟨none, 0, by simp [(HN.out trivial).1], .inl (HN.out trivial).1, Below.refl _ _⟩
    · have hsc : ∀ w2 : World, Below w.heap.size w w2 → 0 < (zs.map (Value.int .u64)).length → some (⟨w.heap.size, 0, none⟩ : Addr) = some ⟨w.heap.size, 0, none⟩ ∧ ∃ ad, some x = some ad ∧ ∀ j v, (zs.map (Value.int .u64))[j]? = some v → w2.cell? (ad.add j) = some v :=
        fun w2 h2 hp => ⟨rfl, urow_cells (hr.keep h2 (Nat.le_refl _)) (by simpa using hp)⟩
      go_upto_region 6 with (at_make; refine wpList_make_full _ rfl _ _ 22 rfl w.heap.size 23 i0 _ 1 Yba.underlying22 hi hz0 hz1 .i64 .i64 _ _ zs.length rfl rfl rfl rfl (by rw [hz2]; omega) (by unfold maxLen; omega) (Nat.le_refl _) ?_; intro w2 hown2 hgr2; obtain ⟨cur, hcur, hcl⟩ := made_block hown2; have hb2 := below_of_grown hgr2; clear hown2 hgr2)
      have hc4 := hsc _ hb2
      clear hsc
      go_wp2_with (refine wpList_copy_splice rfl (.tmp 23) (.tmp 24) 22 22 rfl 23 Yba.underlying22 (by rw [hi]; simp [hz1]) _ _ _ _ _ _ rfl rfl w.heap.size 0 cur 23 hcur (zs.map (Value.int .u64)) (by simp) hc4 (by simp; omega) (by simp [Value.oneCell']) w.heap.size w hb2 (Nat.le_refl _) ?_; intro w3 hrow3 hb3)
      go_meet
      case rel => exact ⟨_, _, rfl, urow_of_block (t := 23) (by rw [hrow3.out, splice_whole _ _ (by simpa using hcl)]), hb3⟩
  case rest =>
    obtain ⟨av, cv, rfl, hrc, hbc⟩ := hcut
    go_wp2_with fail
    refine (newSel_any zs a0 cap0 p s wc hl (hr.keep hbc hbc.size)).mono ?_
    rintro e w4 ⟨g, T, rfl, hg, hTs, hF, g0, g1, g2, hb4⟩
    have hbw := hbc.trans (hb4.mono hbc.size)
    have HB : Hid (URow w4.heap.size w4 av zs) := hrc.keep hb4 hb4.size
    have HF : Hid (Fill T p zs zs.length w4) := hF
    clear hrc hF
    by_cases hpos : 0 < zs.length
    · have hposi : (0 : Int) < (zs.length : Int) := by omega
      obtain ⟨b, off, rfl, hbb, c0⟩ := hr.at hbw 0 hpos
      have hTb : T ≠ b := by have := hbc.size; omega
      have hnew : ∀ nq, (binOp .eql 30 (.pointer (some ⟨T, 0, none⟩)) (.pointer (some ⟨b, off, none⟩))).run Yba.prog (w4.drewN nq) = .ok (.bool false) (w4.drewN nq) := by
        intro nq
        obtain ⟨c, hc, _⟩ := HF.out
        exact ptrNew (w := w4.drewN nq) hc c0 hTb
      have hnew0 : (binOp .eql 30 (.pointer (some ⟨T, 0, none⟩)) (.pointer (some ⟨b, off, none⟩))).run Yba.prog w4 = .ok (.bool false) w4 := hnew 0
      go_wp2
      go_quiet (fail)
      go_wp2
      go_quiet (fail)
      go_wp2
      go_loopw [10] (fun i wr => ∃ k : Nat, k ≤ zs.length ∧ i = .int .i64 k ∧ Below w4.heap.size w4 wr) (fun i _ => zs.length - (intOf i).toNat)
      case atStart => exact ⟨0, by omega, rfl, below_drewN (Below.refl _ _) _⟩
      case round =>
        clear hnew hnew0
        obtain ⟨k, hk, rfl, hb5⟩ := hrel
        by_cases hlt : k < zs.length
        · obtain ⟨_, _, e0, _, d0⟩ := hr.at (hbw.trans (hb5.mono hbw.size)) k hlt
          cases e0
          obtain ⟨b1, off1, rfl, hb1', d1⟩ := HB.out.at hb5 k hlt
          have d2 := (HF.out.keep hb5).row k hlt
          have k2 := (hb5.cell (p := ⟨g, 2, none⟩) hg).trans g2
          have hki : (k : Int) < (zs.length : Int) := by omega
          go_wp2
          go_quiet (fail)
          go_wp2_with fail
          refine (mul64_any _ _ _).mono ?_
          rintro e w6 ⟨⟨hi', lo, rfl, HLO, hlo0, hlo1⟩, rfl⟩
          have etk : tk p zs[k] = lo / 100 := by unfold tk; rw [← HLO.out]
          rw [etk] at d2
          clear etk HLO d0 d1
          go_wp2
          go_roundw
          case rel => exact ⟨k + 1, by omega, by go_num, below_drewN hb5 _⟩
          case measure => simp [intOf]; omega
        · go_wp2
          go_ret
          exact ⟨rfl, hbw.trans (hb5.mono hbw.size)⟩
    · have hd : decide ((0 : Int) < (zs.length : Int)) = false := decide_eq_false (by omega)
      have hd' : ¬ (0 : Int) < (zs.length : Int) := by omega
      go_wp2
      go_quiet (fail)
      go_wp2
      go_quiet (fail)
      go_wp2
      go_loopw [10] (fun i wr => i = .int .i64 0 ∧ Below w4.heap.size w4 wr) (fun _ _ => 0)
      case atStart => exact ⟨rfl, below_drewN (Below.refl _ _) _⟩
      case round =>
        obtain ⟨rfl, hb5⟩ := hrel
        go_wp2
        go_ret
        exact ⟨rfl, hbw.trans (hb5.mono hbw.size)⟩
end Go.Proofs.Ybulkdsho.Sel
