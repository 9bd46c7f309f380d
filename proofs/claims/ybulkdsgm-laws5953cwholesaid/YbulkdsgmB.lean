/-
  LawS5953CWhole: the law's walk.
-/
import Derived.Test.YbulkdsgmA
namespace Go.Proofs.Ybulkdsgm
open Go.RowKit

theorem Yba.info27 : (Yba.prog.info? 27).map (fun i => (i.zero, i.size, i.bytes)) = some (some (.agg #[.bool false, .int .i64 0, .int .i64 0]), 3, 24) := by kernel_rfl
theorem Yba.eqlNil23 (w : World) (a : Option Addr) (n c : Nat) : (binOp .eql 23 (.slice a n c) (.slice none 0 0)).run Yba.prog w = .ok (.bool a.isNone) w := by
  cases a <;> kernel_rfl

/-- k of the elements are laid into block B. -/
def Fill (B : Nat) (ps : List G) (k : Nat) (wr : World) : Prop :=
  ∃ c : Array Value, wr.heap[B]? = some (.cells c 27 (0, 0)) ∧ c.size = ps.length * 3 ∧ ∀ i, (h : i < ps.length) → i < k → c[i * 3]? = some (.bool ps[i].active) ∧ c[i * 3 + 1]? = some (.int .i64 ps[i].sent) ∧ c[i * 3 + 2]? = some (.int .i64 ps[i].taken)

/-- The two copies: nothing to lay, or k elements laid into each of two blocks of the call's own. -/
def Two (N : Nat) (ps : List G) (k : Nat) (a b : Option Addr) (wr : World) : Prop :=
  ps = [] ∨ ∃ A K, a = some ⟨A, 0, none⟩ ∧ b = some ⟨K, 0, none⟩ ∧ A ≠ K ∧ N ≤ A ∧ N ≤ K ∧ Fill A ps k wr ∧ Fill K ps k wr

theorem cell_of_block {w : World} {B i : Nat} {c : Array Value} {t : TypeId} {fr : Nat × Nat} (h : w.heap[B]? = some (.cells c t fr)) : w.cell? ⟨B, i, none⟩ = c[i]? := by
  simp [World.cell?, h]
theorem lt_of_block {w : World} {B : Nat} {o : Obj} (h : w.heap[B]? = some o) : B < w.heap.size := by
  rcases Nat.lt_or_ge B w.heap.size with h' | h'
  · exact h'
  · rw [Array.getElem?_eq_none h'] at h; cases h
theorem Fill.there {B k : Nat} {ps : List G} {wr : World} (h : Fill B ps k wr) (i : Nat) (hi : i < ps.length * 3) : ∃ v, wr.cell? ⟨B, i, none⟩ = some v := by
  obtain ⟨c, hb, hs, _⟩ := h
  exact ⟨c[i]'(by omega), by rw [cell_of_block hb, Array.getElem?_eq_getElem]⟩
theorem Fill.free {B k : Nat} {ps : List G} {wr : World} (h : Fill B ps k wr) (i : Nat) : wr.frozen? ⟨B, i, none⟩ = false := by
  obtain ⟨c, hb, _⟩ := h
  simp [World.frozen?, hb]
theorem Fill.lt {B k : Nat} {ps : List G} {wr : World} (h : Fill B ps k wr) : B < wr.heap.size := by
  obtain ⟨c, hb, _⟩ := h
  exact lt_of_block hb
theorem setCell_block {w : World} {B i : Nat} {c : Array Value} {t : TypeId} {fr : Nat × Nat} {v : Value} (h : w.heap[B]? = some (.cells c t fr)) : (w.setCell ⟨B, i, none⟩ v).heap[B]? = some (.cells (c.setIfInBounds i v) t fr) := by
  simp [World.setCell, Array.getElem?_modify, h]
theorem Fill.set3 {B k : Nat} {ps : List G} {wr : World} (h : Fill B ps k wr) (hk : k < ps.length) : Fill B ps (k + 1) (((wr.setCell ⟨B, k * 3, none⟩ (.bool ps[k].active)).setCell ⟨B, k * 3 + 1, none⟩ (.int .i64 ps[k].sent)).setCell ⟨B, k * 3 + 2, none⟩ (.int .i64 ps[k].taken)) := by
  obtain ⟨c, hb, hs, hc⟩ := h
  refine ⟨_, setCell_block (setCell_block (setCell_block hb)), by simpa using hs, fun i hi hik => ?_⟩
  by_cases e : i = k
  · subst e
    refine ⟨?_, ?_, ?_⟩
    · rw [Array.getElem?_setIfInBounds_ne (by omega), Array.getElem?_setIfInBounds_ne (by omega), Array.getElem?_setIfInBounds_self_of_lt (by omega)]
    · rw [Array.getElem?_setIfInBounds_ne (by omega), Array.getElem?_setIfInBounds_self_of_lt (by simp; omega)]
    · rw [Array.getElem?_setIfInBounds_self_of_lt (by simp; omega)]
  · obtain ⟨d0, d1, d2⟩ := hc i hi (by omega)
    refine ⟨?_, ?_, ?_⟩
    · rw [Array.getElem?_setIfInBounds_ne (by omega), Array.getElem?_setIfInBounds_ne (by omega), Array.getElem?_setIfInBounds_ne (by omega)]; exact d0
    · rw [Array.getElem?_setIfInBounds_ne (by omega), Array.getElem?_setIfInBounds_ne (by omega), Array.getElem?_setIfInBounds_ne (by omega)]; exact d1
    · rw [Array.getElem?_setIfInBounds_ne (by omega), Array.getElem?_setIfInBounds_ne (by omega), Array.getElem?_setIfInBounds_ne (by omega)]; exact d2
theorem Fill.heap {B k : Nat} {ps : List G} {wr wr' : World} (h : Fill B ps k wr) (he : wr'.heap[B]? = wr.heap[B]?) : Fill B ps k wr' := by
  obtain ⟨c, hb, r⟩ := h
  exact ⟨c, he.trans hb, r⟩
theorem Fill.other {B k : Nat} {ps : List G} {wr : World} {a : Addr} {v : Value} (h : Fill B ps k wr) (ha : B ≠ a.block) : Fill B ps k (wr.setCell a v) :=
  h.heap (Below.heap_setCell _ _ _ _ ha)
theorem two_end {A K k : Nat} {ps : List G} {w X : World} {o : Obj} (hAK : A ≠ K) (hA : w.heap.size ≤ A) (hK : w.heap.size ≤ K) (fA : Fill A ps k X) (fK : Fill K ps k X) (hb : Below w.heap.size w X) :
    Two w.heap.size ps k (some ⟨A, 0, none⟩) (some ⟨K, 0, none⟩) (X.alloc o).drew ∧ Below w.heap.size w (X.alloc o).drew :=
  ⟨.inr ⟨A, K, rfl, rfl, hAK, hA, hK, fA.heap (Below.heap_alloc X o A fA.lt), fK.heap (Below.heap_alloc X o K fK.lt)⟩, (hb.alloc hb.size o).drew⟩
theorem two_step {A K k : Nat} {ps : List G} {w wr : World} {o : Obj} (hAK : A ≠ K) (hA : w.heap.size ≤ A) (hK : w.heap.size ≤ K) (fA : Fill A ps k wr) (fK : Fill K ps k wr) (hk : k < ps.length) (hb : Below w.heap.size w wr) :
    Two w.heap.size ps (k + 1) (some ⟨A, 0, none⟩) (some ⟨K, 0, none⟩) (((((((wr.setCell ⟨A, k * 3, none⟩ (.bool ps[k].active)).setCell ⟨A, k * 3 + 1, none⟩ (.int .i64 ps[k].sent)).setCell ⟨A, k * 3 + 2, none⟩ (.int .i64 ps[k].taken)).setCell ⟨K, k * 3, none⟩ (.bool ps[k].active)).setCell ⟨K, k * 3 + 1, none⟩ (.int .i64 ps[k].sent)).setCell ⟨K, k * 3 + 2, none⟩ (.int .i64 ps[k].taken)).alloc o).drew ∧
    Below w.heap.size w (((((((wr.setCell ⟨A, k * 3, none⟩ (.bool ps[k].active)).setCell ⟨A, k * 3 + 1, none⟩ (.int .i64 ps[k].sent)).setCell ⟨A, k * 3 + 2, none⟩ (.int .i64 ps[k].taken)).setCell ⟨K, k * 3, none⟩ (.bool ps[k].active)).setCell ⟨K, k * 3 + 1, none⟩ (.int .i64 ps[k].sent)).setCell ⟨K, k * 3 + 2, none⟩ (.int .i64 ps[k].taken)).alloc o).drew := by
  have gA := ((((fA.set3 hk).other (a := ⟨K, k * 3, none⟩) (v := .bool ps[k].active) hAK).other (a := ⟨K, k * 3 + 1, none⟩) (v := .int .i64 ps[k].sent) hAK).other (a := ⟨K, k * 3 + 2, none⟩) (v := .int .i64 ps[k].taken) hAK)
  have gK := (((fK.other (a := ⟨A, k * 3, none⟩) (v := .bool ps[k].active) (Ne.symm hAK)).other (a := ⟨A, k * 3 + 1, none⟩) (v := .int .i64 ps[k].sent) (Ne.symm hAK)).other (a := ⟨A, k * 3 + 2, none⟩) (v := .int .i64 ps[k].taken) (Ne.symm hAK)).set3 hk
  have b1 := ((hb.setCell (p := ⟨A, k * 3, none⟩) hA (.bool ps[k].active)).setCell (p := ⟨A, k * 3 + 1, none⟩) hA (.int .i64 ps[k].sent)).setCell (p := ⟨A, k * 3 + 2, none⟩) hA (.int .i64 ps[k].taken)
  have b2 := ((b1.setCell (p := ⟨K, k * 3, none⟩) hK (.bool ps[k].active)).setCell (p := ⟨K, k * 3 + 1, none⟩) hK (.int .i64 ps[k].sent)).setCell (p := ⟨K, k * 3 + 2, none⟩) hK (.int .i64 ps[k].taken)
  exact two_end hAK hA hK gA gK b2
theorem Fill.made {B N : Nat} {ps : List G} {w : World} {xs : List Value} (h : w.ownsRow N 27 3 (.slice (some ⟨B, 0, none⟩) ps.length ps.length) ps.length xs) : Fill B ps 0 w := by
  obtain ⟨_, ⟨h, _⟩ | ⟨g', cp, cur, e1, _, e3, _, _, e6, _⟩⟩ := h
  · cases h
  · injection e1 with e1 _ e2
    simp at e1
    subst e1 e2
    exact ⟨cur, e3, e6, fun i _ h => by omega⟩
theorem Two.prow {N : Nat} {ps : List G} {a b : Option Addr} {wr : World} (h : Two N ps ps.length a b wr) : PRow wr.heap.size wr a ps ∧ PRow wr.heap.size wr b ps := by
  rcases h with h | ⟨A, K, ha, hb, _, _, _, ⟨c, hc, _, hf⟩, ⟨e, he, _, hg⟩⟩
  · exact ⟨.inl h, .inl h⟩
  · refine ⟨.inr ⟨A, 0, ha, lt_of_block hc, fun i hi => ?_⟩, .inr ⟨K, 0, hb, lt_of_block he, fun i hi => ?_⟩⟩
    · rw [cell_of_block hc, cell_of_block hc, cell_of_block hc, Nat.zero_add]; exact hf i hi hi
    · rw [cell_of_block he, cell_of_block he, cell_of_block he, Nat.zero_add]; exact hg i hi hi
theorem PRow.keep {N : Nat} {w w' : World} {a : Option Addr} {ps : List G} (h : PRow w.heap.size w a ps) (hb : Below w.heap.size w w') (hN : w.heap.size ≤ N) : PRow N w' a ps := by
  rcases h with h | ⟨b, off, ha, hlt, hc⟩
  · exact .inl h
  · exact .inr ⟨b, off, ha, by omega, fun i hi => ⟨(hb.cell hlt).trans (hc i hi).1, (hb.cell hlt).trans (hc i hi).2.1, (hb.cell hlt).trans (hc i hi).2.2⟩⟩

attribute [local go_sem] Yba.eqlNil23
set_option maxRecDepth 20000 in
set_option maxHeartbeats 2000000 in
theorem law_main (ps : List G) (a0 : Option Addr) (cap0 : Nat) (d : Int) (w : World) (hl : ps.length ≤ 1048576) (hr : PRow w.heap.size w a0 ps) (hnil : a0 = none → ps = [] ∧ cap0 = 0) :
    Calls Yba.prog 3 #[.slice a0 ps.length cap0, .int .i64 d] w fun e w' => e = .returned (.bool true) ∧ Below w.heap.size w w' := by
  have HN : Hid (a0 = none → ps = [] ∧ cap0 = 0) := hnil
  clear hnil
  obtain ⟨i27, hi, hz0, hz1, hz2⟩ := info_parts Yba.info27
  go_enter Yba.func3, Yba.ntmps3
  go_upto_if 21 with fail
  go_cut [5, 6] (fun v u wc => ∃ av aw cv cw, v = .slice av ps.length cv ∧ u = .slice aw ps.length cw ∧ av.isNone = aw.isNone ∧ Two w.heap.size ps 0 av aw wc ∧ Below w.heap.size w wc)
  case first =>
    rcases a0 with _ | x
    · go_wp2
      go_meet
      case rel => exact ⟨none, none, 0, 0, by simp [(HN.out trivial).1], by simp [(HN.out trivial).1], rfl, .inl (HN.out trivial).1, Below.refl _ _⟩
    · go_upto_region 7 with (at_make; refine wpList_make_full _ rfl _ _ 23 rfl w.heap.size 27 i27 _ 3 Yba.underlying23 hi hz0 hz1 .i64 .i64 _ _ ps.length rfl rfl rfl rfl (by rw [hz2]; omega) (by unfold maxLen; omega) (Nat.le_refl _) ?_; intro w1 hown1 hgr1)
      have hs1 := hgr1.size
      go_wp2_with (at_make; refine wpList_make_full _ rfl _ _ 23 rfl w.heap.size 27 i27 _ 3 Yba.underlying23 hi hz0 hz1 .i64 .i64 _ _ ps.length rfl rfl rfl rfl (by rw [hz2]; omega) (by unfold maxLen; omega) (by omega) ?_; intro w2 hown2 hgr2)
      go_meet
      case rel =>
        have b1 : Below w.heap.size w w1 := (Below.refl _ _).grown hgr1 (Nat.le_refl _) (fun _ h => by cases h)
        have b2 : Below w1.heap.size w1 w2 := (Below.refl _ _).grown hgr2 (Nat.le_refl _) (fun _ h => by cases h)
        have f1 := Fill.made hown1
        exact ⟨_, _, _, _, rfl, rfl, rfl, .inr ⟨w.heap.size, w1.heap.size, rfl, rfl, by have := f1.lt; omega, Nat.le_refl _, hs1, f1.heap (b2.block _ f1.lt), Fill.made hown2⟩, b1.trans (b2.mono hs1)⟩
  case rest =>
    obtain ⟨av, aw, cv, cw, rfl, rfl, hav, hT, hbc⟩ := hcut
    go_wp2
    go_loopw [7] (fun i wr => ∃ k : Nat, k ≤ ps.length ∧ i = .int .i64 k ∧ Two w.heap.size ps k av aw wr ∧ Below w.heap.size w wr) (fun i _ => ps.length - (intOf i).toNat)
    case atStart => exact ⟨0, by omega, rfl, hT, hbc⟩
    case round =>
      clear hT hbc
      obtain ⟨k, hk, rfl, hT, hb⟩ := hrel
      by_cases hlt : k < ps.length
      · obtain ⟨b, off, rfl, hbb, c0, c1, c2⟩ := hr.at hb k hlt
        rcases hT with hT | ⟨A, K, rfl, rfl, hAK, hA, hK, fA, fK⟩
        · subst hT; simp at hlt
        have hbs : b < wr.heap.size := Nat.lt_of_lt_of_le hbb hb.size
        have hki : (k : Int) < (ps.length : Int) := by omega
        go_wp2
        go_region_held3 (fun w' => w'.cell? ⟨b, off + k * 3, none⟩ = some (.bool ps[k].active) ∧ w'.cell? ⟨b, off + k * 3 + 1, none⟩ = some (.int .i64 ps[k].sent) ∧ w'.cell? ⟨b, off + k * 3 + 2, none⟩ = some (.int .i64 ps[k].taken)) (go_keep) (fail)
        obtain ⟨u0, x0⟩ := fA.there (k * 3) (by omega)
        obtain ⟨u1, x1⟩ := fA.there (k * 3 + 1) (by omega)
        obtain ⟨u2, x2⟩ := fA.there (k * 3 + 2) (by omega)
        obtain ⟨y0, z0⟩ := fK.there (k * 3) (by omega)
        obtain ⟨y1, z1⟩ := fK.there (k * 3 + 1) (by omega)
        obtain ⟨y2, z2⟩ := fK.there (k * 3 + 2) (by omega)
        have fz0 := fA.free (k * 3)
        have fz1 := fA.free (k * 3 + 1)
        have fz2 := fA.free (k * 3 + 2)
        have gz0 := fK.free (k * 3)
        have gz1 := fK.free (k * 3 + 1)
        have gz2 := fK.free (k * 3 + 2)
        have hAl := fA.lt
        have hKl := fK.lt
        have hKA : K ≠ A := fun h => hAK h.symm
        have R := two_step (o := .cells #[.bool ps[k].active, .int .i64 ps[k].sent, .int .i64 ps[k].taken] 27) hAK hA hK fA fK hlt hb
        have HR : Hid (_ ∧ _) := R
        clear R fA fK
        go_wp2
        go_roundw
        case rel => exact ⟨k + 1, by omega, by go_num, HR.out.1, HR.out.2⟩
        case measure => simp [intOf]; omega
      · obtain rfl : k = ps.length := by omega
        obtain ⟨hpa, hpb⟩ := hT.prow
        have HA : Hid (PRow wr.heap.size wr av ps) := hpa
        have HB : Hid (PRow wr.heap.size wr aw ps) := hpb
        clear hT hpa hpb
        go_wp2
        clear hk hlt
        go_loop [9, 10, 11] (fun u v i => ∃ k : Nat, k ≤ ps.length ∧ i = .int .i64 k ∧ (∃ z : Int, u = .int .i64 z ∧ Hid (z = sums G.sent (ps.take k))) ∧ (∃ z : Int, v = .int .i64 z ∧ Hid (z = sums G.taken (ps.take k)))) (fun _ _ i => ps.length - (intOf i).toNat)
        case atStart => exact ⟨0, by omega, rfl, ⟨_, rfl, (sums_nil _).symm⟩, ⟨_, rfl, (sums_nil _).symm⟩⟩
        case round =>
          obtain ⟨k, hk, rfl, ⟨z, rfl, HZ⟩, ⟨y, rfl, HY⟩⟩ := hrel
          by_cases hlt : k < ps.length
          · obtain ⟨b, off, rfl, hbb, c0, c1, c2⟩ := hr.at hb k hlt
            go_wp2
            go_round
            case rel => exact ⟨k + 1, by omega, by go_num, ⟨_, rfl, by show _ = sums _ _; rw [take_snoc ps k hlt, ← sums_snoc, HZ.out]⟩, ⟨_, rfl, by show _ = sums _ _; rw [take_snoc ps k hlt, ← sums_snoc, HY.out]⟩⟩
            case measure => simp [intOf]; omega
          · have HE : Hid (wrap64 (z - y) = unh ps) := by
              show _ = unh ps
              rw [HZ.out, HY.out, List.take_of_length_le (by omega), sums_unh]
            go_upto_region 22 with fail
            clear HZ HY
            rw [HE.out]
            go_cut [13] (fun v wx => v = .bool (ov (unh ps) d) ∧ wx = wr)
            case first =>
              cases e0 : (unh ps == 0) with
              | true =>
                go_wp2
                go_meet
                case rel => exact ⟨by simp [ov, e0], rfl⟩
              | false =>
                go_wp2
                go_meet
                case rel => exact ⟨by simp [ov, e0], rfl⟩
            case rest =>
              obtain ⟨rfl, rfl⟩ := hcut
              go_wp2_with fail
              refine (ended_any ps av cv d _ hl HA.out).mono ?_
              rintro e w3 ⟨rfl, hb3⟩
              have HA3 : Hid (PRow w3.heap.size w3 av ps) := HA.out.keep hb3 hb3.size
              have HB3 : Hid (PRow w3.heap.size w3 aw ps) := HB.out.keep hb3 hb3.size
              have hbw := hb.trans (hb3.mono hb.size)
              clear HA HB hb3
              go_wp2
              go_loopw [16] (fun i wr => ∃ j : Nat, j ≤ ps.length ∧ i = .int .i64 j ∧ Below w3.heap.size w3 wr) (fun i _ => ps.length - (intOf i).toNat)
              case atStart => exact ⟨0, by omega, rfl, Below.refl _ _⟩
              case round =>
                obtain ⟨j, hj, rfl, hb5⟩ := hrel
                by_cases hjl : j < ps.length
                · obtain ⟨b1, off1, rfl, hb1', c0, c1, c2⟩ := HA3.out.at hb5 j hjl
                  obtain ⟨b2, off2, rfl, hb2', d0, d1, d2⟩ := HB3.out.at hb5 j hjl
                  have hji : (j : Int) < (ps.length : Int) := by omega
                  go_wp2
                  go_quiet (fail)
                  go_wp2
                  go_roundw
                  case rel => exact ⟨j + 1, by omega, by go_num, below_drewN hb5 _⟩
                  case measure => simp [intOf]; omega
                · go_wp2
                  go_ret
                  exact ⟨rfl, hbw.trans (hb5.mono hbw.size)⟩
end Go.Proofs.Ybulkdsgm
