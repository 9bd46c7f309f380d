/-
  The law's walk.
-/
import Derived.Test.YbulkdsewFmtC
import Derived.Deep.DeepCutAuto
import Derived.Deep.RegionHeldLaw
import Derived.Deep.AppendLies
import Derived.Laws.CopyOwn
import Derived.WalkLawsBesides
namespace Go.Proofs.YbulkdsewFmt
open Go.RowKit Go.Extern.Stop Go.Stop Go.Extern

theorem Ybaf.info38 : (Ybaf.prog.info? 38).map (fun i => (i.zero, i.size, i.bytes)) = some (some (.agg #[.string ⟨#[]⟩, .slice none 0 0]), 2, 40) := by kernel_rfl

def clsCells (cs : List ByteArray) : List Value := cs.flatMap fun c => [.string c, .slice none 0 0]

theorem srow_cells {B : Nat} {w : World} {a : Option Addr} {ss : List ByteArray} (h : SRow B w a ss) (hp : 0 < ss.length) : ∃ ad, a = some ad ∧ ∀ j v, (ss.map Value.string)[j]? = some v → w.cell? (ad.add j) = some v := by
  rcases h with h | ⟨b, off, ha, _, hc⟩
  · subst h; simp at hp
  · refine ⟨_, ha, fun j v hj => ?_⟩
    rw [List.getElem?_map] at hj
    cases hg : ss[j]? with
    | none => rw [hg] at hj; simp at hj
    | some x =>
      rw [hg] at hj
      simp at hj
      obtain ⟨hlt, hx⟩ := List.getElem?_eq_some_iff.1 hg
      subst hj
      have := hc j hlt
      rw [hx] at this
      cases j <;> simpa [Addr.add] using this
theorem srow_of_block {w : World} {g : Nat} {ss : List ByteArray} {t : TypeId} (h : w.heap[g]? = some (.cells (ss.map Value.string).toArray t (0, 0))) : SRow w.heap.size w (some ⟨g, 0, none⟩) ss := by
  have hlt : g < w.heap.size := by
    rcases Nat.lt_or_ge g w.heap.size with h' | h'
    · exact h'
    · rw [Array.getElem?_eq_none h'] at h; cases h
  refine .inr ⟨g, 0, rfl, hlt, fun i hi => ?_⟩
  simp [World.cell?, h, hi]

theorem made_block {w : World} {B g n : Nat} {xs : List Value} (h : w.ownsRow B 9 1 (.slice (some ⟨g, 0, none⟩) n n) n xs) : ∃ cur : List Value, w.heap[g]? = some (.cells cur.toArray 9 (0, 0)) ∧ cur.length = n := by
  obtain ⟨_, ⟨h, _⟩ | ⟨g', cp, cur, e1, _, e3, _, _, e6, _⟩⟩ := h
  · cases h
  · injection e1 with e1 _ e2
    simp at e1
    subst e1 e2
    exact ⟨cur.toList, by simpa using e3, by simpa using e6⟩
theorem below_of_grown {w w' : World} (h : w.grownBy w' none) : Below w.heap.size w w' := (Below.refl _ _).grown h (Nat.le_refl _) (fun _ h => by cases h)

theorem splice_whole (L xs : List Value) (h : L.length = xs.length) : splice L 0 xs = xs := by
  unfold splice
  rw [List.drop_eq_nil_of_le (by omega)]
  simp
theorem srow_at {B : Nat} {w w' : World} {a : Option Addr} {ss : List ByteArray} (h : SRow B w a ss) (hb : Below B w w') (k : Nat) (hk : k < ss.length) : ∃ b off, a = some ⟨b, off, none⟩ ∧ w'.cell? ⟨b, off + k, none⟩ = some (.string ss[k]) := by
  rcases h with h | ⟨b, off, ha, hlt, hc⟩
  · subst h; simp at hk
  · exact ⟨b, off, ha, (hb.cell hlt).trans (hc k hk)⟩

theorem Ybaf.eqlNil (w : World) (a : Option Addr) (n c : Nat) : (binOp .eql 22 (.slice a n c) (.slice none 0 0)).run Ybaf.prog w = .ok (.bool a.isNone) w := by
  cases a <;> kernel_rfl
attribute [local go_sem] Ybaf.eqlNil

theorem clsCells_snoc (cs : List ByteArray) (k : Nat) (h : k < cs.length) : clsCells (cs.take (k + 1)) = clsCells (cs.take k) ++ [.string cs[k], .slice none 0 0] := by
  unfold clsCells
  rw [List.take_succ_eq_append_getElem h, List.flatMap_append]
  simp

theorem news_two {w : World} {v1 v2 : Value} {e n : Nat} (hn : n = w.heap.size) : ∀ j u, [v1, v2][j]? = some u → (w.alloc (.cells #[v1, v2] e)).drew.cell? ((⟨n, 0, none⟩ : Addr).add j) = some u := by
  intro j u hj
  subst hn
  match j, hj with
  | 0, hj => simp at hj; subst hj; simp [Addr.add]
  | 1, hj => simp at hj; subst hj; simp [Addr.add]

/-- The profile in the call's own memory, k of its classes laid. -/
def PInv (B : Nat) (wr : World) (k : Nat) (cs : List ByteArray) : Prop :=
  ∃ v, wr.cell? ⟨B, 15, none⟩ = some v ∧ wr.frozen? ⟨B, 15, none⟩ = false ∧ wr.ownsRow (B + 1) 38 2 v k (clsCells (cs.take k)) ∧ B < wr.heap.size

theorem PInv.below {B k : Nat} {wr wc : World} {cs : List ByteArray} (h : PInv B wr k cs) (hb : Below wr.heap.size wr wc) : PInv B wc k cs := by
  obtain ⟨v, h1, h2, h3, h4⟩ := h
  refine ⟨v, (hb.cell h4).trans h1, (hb.frozen h4).trans h2, ?_, Nat.lt_of_lt_of_le h4 hb.size⟩
  exact h3.kept (row := none) ⟨hb.os, hb.tape, hb.output, hb.size, fun k hk _ => hb.block k hk⟩ (by cases h : v.ownBlock <;> simp)

theorem clsCells_at (cs : List ByteArray) (i : Nat) (h : i < cs.length) : (clsCells cs)[i * 2]? = some (.string cs[i]) ∧ (clsCells cs)[i * 2 + 1]? = some (.slice none 0 0) := by
  induction cs generalizing i with
  | nil => simp at h
  | cons c t ih =>
    cases i with
    | zero => simp [clsCells]
    | succ i =>
      have := ih i (by simpa using h)
      simp only [clsCells, List.flatMap_cons, List.cons_append, List.nil_append, List.getElem_cons_succ] at this ⊢
      rw [show (i + 1) * 2 = i * 2 + 1 + 1 by omega, List.getElem?_cons_succ, List.getElem?_cons_succ, List.getElem?_cons_succ, List.getElem?_cons_succ]
      exact this
theorem PInv.crow {B : Nat} {wr : World} {cs : List ByteArray} (h : PInv B wr cs.length cs) : ∃ a cap, wr.cell? ⟨B, 15, none⟩ = some (.slice a cs.length cap) ∧ CRow wr.heap.size wr a cs ∧ B < wr.heap.size := by
  obtain ⟨v, h1, h2, h3, h4⟩ := h
  have hlt := h3.lt
  have hcl := fun g hg => h3.cells (g := g) hg
  rw [List.take_of_length_le (Nat.le_refl _)] at h3 hcl
  obtain ⟨_, ⟨rfl, e⟩ | ⟨g, cap, cur, rfl, _⟩⟩ := h3
  · exact ⟨none, 0, by rw [h1, e], .inl (List.eq_nil_of_length_eq_zero e), h4⟩
  · refine ⟨_, _, h1, .inr ⟨g, 0, rfl, (hlt g rfl).2, fun i hi => ?_⟩, h4⟩
    have c := hcl g rfl
    have k := clsCells_at cs i hi
    have c1 := c _ _ k.1
    have c2 := c _ _ k.2
    have hadd : ∀ j, (⟨g, 0, none⟩ : Addr).add j = ⟨g, 0 + j, none⟩ := fun j => by unfold Addr.add; split <;> simp_all
    rw [hadd] at c1 c2
    exact ⟨c1, c2⟩
theorem got_shape {B : Nat} {w : World} {v : Value} {n : Nat} (h : Got B w v n) : (n = 0 → v = .slice none 0 0) ∧ ∃ a cap, v = .slice a n cap := by
  obtain ⟨xs, ⟨_, ⟨rfl, rfl⟩ | ⟨g, cap, cur, rfl, _⟩⟩, hn⟩ := h
  · exact ⟨hn, none, 0, rfl⟩
  · exact ⟨hn, _, _, rfl⟩

theorem far {B b off g : Nat} {W w1 : World} {row : Option Nat} (hg : W.grownBy w1 row) (hr : ∀ k, row = some k → B + 1 ≤ k ∧ k < g) (hb : b ≤ B) (hB : B < W.heap.size) : w1.cell? ⟨b, off, none⟩ = W.cell? ⟨b, off, none⟩ ∧ w1.frozen? ⟨b, off, none⟩ = W.frozen? ⟨b, off, none⟩ :=
  ⟨hg.cell_far _ (by show b < _; omega) (fun h => by have := (hr _ h.symm).1; simp at this; omega), hg.frozen_far _ (by show b < _; omega) (fun h => by have := (hr _ h.symm).1; simp at this; omega)⟩

theorem PInv_step {w wr w1 : World} {v : Value} {k g cap : Nat} {cs : List ByteArray} {o : Obj} (hb : Below w.heap.size w wr) (hB : w.heap.size < wr.heap.size) (hlt : k < cs.length)
    (hown : (wr.alloc o).drew.ownsRow (w.heap.size + 1) 38 2 v k (clsCells (cs.take k)))
    (hown1 : w1.ownsRow (w.heap.size + 1) 38 2 (.slice (some ⟨g, 0, none⟩) (k + 1) cap) (k + 1) (clsCells (cs.take k) ++ [.string cs[k], .slice none 0 0])) (hg : (wr.alloc o).drew.grownBy w1 v.ownBlock)
    (h1 : w1.cell? ⟨w.heap.size, 15, none⟩ = some v) (h2 : w1.frozen? ⟨w.heap.size, 15, none⟩ = false) :
    PInv w.heap.size (w1.setCell ⟨w.heap.size, 15, none⟩ (.slice (some ⟨g, 0, none⟩) (k + 1) cap)) (k + 1) cs ∧ Below w.heap.size w (w1.setCell ⟨w.heap.size, 15, none⟩ (.slice (some ⟨g, 0, none⟩) (k + 1) cap)) := by
  have hs := hg.size
  simp at hs
  refine ⟨⟨_, World.cell?_setCell_same _ _ _ h1, by rw [World.frozen?_setCell]; exact h2, ?_, by simp; omega⟩, ?_⟩
  · rw [clsCells_snoc cs k hlt]
    exact ownsRow_setCell_below hown1 (by simp) _
  · refine Below.setCell (p := ⟨w.heap.size, 15, none⟩) ?_ (Nat.le_refl w.heap.size) _
    exact ((hb.alloc (by omega) o).drew).grown hg (by simp; omega) fun j hj => by have := (hown.lt j hj).1; omega

set_option maxRecDepth 20000 in
set_option maxHeartbeats 1000000 in
theorem law_main (F : Interp) (cs ns : List ByteArray) (a0 a1 : Option Addr) (cap0 cap1 : Nat) (w : World) (hF : F.answers w.tape) (hl0 : cs.length ≤ 1024) (hl1 : ns.length ≤ 1024)
    (hr0 : SRow w.heap.size w a0 cs) (hr1 : SRow w.heap.size w a1 ns) (hnil : a1 = none → ns = [] ∧ cap1 = 0) :
    Calls Ybaf.prog 3 #[.slice a0 cs.length cap0, .slice a1 ns.length cap1] w fun e w' => e = .returned (.bool true) ∧ Below w.heap.size w w' := by
  have HN : Hid (a1 = none → ns = [] ∧ cap1 = 0) := hnil
  clear hnil
  obtain ⟨i38, hi38, hz380, hz381, hz382⟩ := info_parts Ybaf.info38
  go_enter Ybaf.func3, Ybaf.ntmps3
  go_wp2
  go_loopw [6] (fun i wr => ∃ k : Nat, k ≤ cs.length ∧ i = .int .i64 k ∧ PInv w.heap.size wr k cs ∧ Below w.heap.size w wr) (fun i _ => cs.length - (intOf i).toNat)
  case atStart => exact ⟨0, by omega, rfl, ⟨.slice none 0 0, by simp, by simp, by simpa [clsCells] using World.ownsRow_nil _ _ _ _, by simp⟩, (Below.refl _ _).alloc (Nat.le_refl _) _⟩
  case round =>
    obtain ⟨k, hk, rfl, ⟨v, hv, hvf, hown, hB⟩, hb⟩ := hrel
    by_cases hlt : k < cs.length
    · rcases hr0 with hr0 | ⟨b, off, rfl, hbb, hc⟩
      · subst hr0; simp at hlt
      have h1 := (hb.cell hbb).trans (hc k hlt)
      have hob := hown.lt
      have hbw : b < wr.heap.size := by omega
      clear hc
      have s2 : Hid ((wr.alloc (.cells #[.string cs[k], .slice none 0 0] 38)).drew.ownsRow (w.heap.size + 1) 38 2 v k (clsCells (cs.take k))) := (hown.alloc _).drew
      have s6 : Hid (k + 1 ≤ maxLen) := by show k + 1 ≤ maxLen; unfold maxLen; omega
      have s7 : Hid ((k + 1) * 40 ≤ 140737488355328) := by show (k + 1) * 40 ≤ 140737488355328; omega
      have s8 : Hid (w.heap.size + 1 ≤ (wr.alloc (.cells #[.string cs[k], .slice none 0 0] 38)).drew.heap.size) := by show w.heap.size + 1 ≤ (wr.alloc (.cells #[.string cs[k], .slice none 0 0] 38)).drew.heap.size; simp; omega
      have s9 : Hid (∀ w1 : World, (wr.alloc (.cells #[.string cs[k], .slice none 0 0] 38)).drew.grownBy w1 v.ownBlock → w1.cell? ⟨w.heap.size, 15, none⟩ = some v ∧ w1.frozen? ⟨w.heap.size, 15, none⟩ = false ∧ w1.cell? ⟨b, off + k, none⟩ = some (.string cs[k])) := by
        intro w1 hg
        have f1 := far (b := w.heap.size) (off := 15) hg hob (Nat.le_refl _) s8.out
        have f2 := far (b := b) (off := off + k) hg hob (by omega) s8.out
        refine ⟨f1.1.trans ?_, f1.2.trans ?_, f2.1.trans ?_⟩
        · simpa [World.cell?_alloc_past, hB] using hv
        · simpa [World.frozen?_alloc_past, hB] using hvf
        · simpa [World.cell?_alloc_past, hbw] using h1
      clear hown hob
      go_wp2
      have hne : b ≠ w.heap.size := by omega
      go_region_law
        ((refine step_append_lies _ rfl (.tmp 38) (.tmp 44) 32 rfl (w.heap.size + 1) 38 i38 _ 2 40 Ybaf.underlying32 hi38 hz380 hz381 hz382 rfl (by decide) v k (clsCells (cs.take k)) rfl s2.out ⟨wr.heap.size, 0, none⟩ 1 1 [.string cs[k], .slice none 0 0] rfl rfl (news_two rfl) (by simp [Value.oneCell']) (by decide) s6.out s7.out s8.out _ rfl ?_; intro g cap w1 hown1 hgrow hat hlt1; obtain ⟨hk1, hk3, hk2⟩ := s9.out w1 hgrow))
      all_goals
        have R := PInv_step (o := .cells #[.string cs[k], .slice none 0 0] 38) hb hB hlt s2.out hown1 hgrow hk1 hk3
        clear hown1 hgrow hat hlt1 hk1 hk3 hk2 s2 s6 s7 s8 s9
        go_wp2
        go_roundw
        case rel => exact ⟨k + 1, by omega, by go_num, R.1, R.2⟩
        case measure => simp [intOf]; omega
    · have hke : k = cs.length := by omega
      subst hke
      go_upto_if 49 with fail
      go_cut [7] (fun v wc => ∃ av cv, v = .slice av ns.length cv ∧ av.isNone = a1.isNone ∧ SRow wc.heap.size wc av ns ∧ Below wr.heap.size wr wc)
      case first =>
        obtain ⟨i9, hi9, hz90, hz91, hz92⟩ := info_parts Ybaf.info9
        rcases a1 with _ | x1
        · go_wp2
          go_meet
          case rel => exact ⟨none, 0, by simp [(HN.out trivial).1], rfl, .inl (HN.out trivial).1, Below.refl _ _⟩
        · have hq := hr1.keep hb (Nat.le_refl _)
          have hsc : ∀ w2 : World, Below wr.heap.size wr w2 → 0 < (ns.map Value.string).length → some (⟨wr.heap.size, 0, none⟩ : Addr) = some ⟨wr.heap.size, 0, none⟩ ∧ ∃ ad, some x1 = some ad ∧ ∀ j v, (ns.map Value.string)[j]? = some v → w2.cell? (ad.add j) = some v :=
            fun w2 h2 hp => ⟨rfl, srow_cells (hr1.keep (hb.trans (h2.mono hb.size)) (Nat.le_refl _)) (by simpa using hp)⟩
          go_upto_region 11 with (at_make; refine wpList_make_full _ rfl _ _ 22 rfl wr.heap.size 9 i9 _ 1 Ybaf.underlying22 hi9 hz90 hz91 .i64 .i64 _ _ ns.length rfl rfl rfl rfl (by rw [hz92]; omega) (by unfold maxLen; omega) (Nat.le_refl _) ?_; intro w2 hown2 hgr2; obtain ⟨cur, hcur, hcl⟩ := made_block hown2; have hb2 := below_of_grown hgr2; clear hown2 hgr2)
          have hc4 := hsc _ hb2
          clear hsc hq hr1 hr0 hown
          go_wp2_with (refine wpList_copy_splice rfl (.tmp 53) (.tmp 54) 22 22 rfl 9 Ybaf.underlying22 (by rw [hi9]; simp [hz91]) _ _ _ _ _ _ rfl rfl wr.heap.size 0 cur 9 hcur (ns.map Value.string) (by simp) hc4 (by simp; omega) (by simp [Value.oneCell']) wr.heap.size wr hb2 (Nat.le_refl _) ?_; intro w3 hrow3 hb3)
          go_meet
          case rel => exact ⟨_, _, rfl, rfl, srow_of_block (t := 9) (by rw [hrow3.out, splice_whole _ _ (by simpa using hcl)]), hb3⟩
      case rest =>
        obtain ⟨av, cv, rfl, hav, hrc, hbc⟩ := hcut
        have hP : Hid (PInv w.heap.size wc cs.length cs) := PInv.below ⟨v, hv, hvf, hown, hB⟩ hbc
        have hbw : Below w.heap.size w wc := hb.trans (hbc.mono hb.size)
        clear hv hvf hown hB hb hbc hk hlt
        go_wp2
        go_loopw [8, 9] (fun t i wr => ∃ k : Nat, k ≤ cs.length ∧ i = .int .i64 k ∧ t = .int .i64 (lack ns (cs.take k)) ∧ Below wc.heap.size wc wr) (fun _ i _ => cs.length - (intOf i).toNat)
        case atStart => exact ⟨0, by omega, rfl, by simp [lack], Below.refl _ _⟩
        case round =>
          obtain ⟨k, hk, rfl, rfl, hb1⟩ := hrel
          by_cases hlt : k < cs.length
          · go_wp2
            go_loopw [10, 11] (fun f i wr => ∃ j : Nat, j ≤ ns.length ∧ i = .int .i64 j ∧ f = .bool false ∧ cs[k] ∉ ns.take j ∧ Below wc.heap.size wc wr) (fun _ i _ => ns.length - (intOf i).toNat)
            case atStart => exact ⟨0, by omega, rfl, rfl, by simp, hb1⟩
            case round =>
              clear hb1
              obtain ⟨j, hj, rfl, rfl, hn, hb1⟩ := hrel
              have hlk := lack_le ns (cs.take k)
              have hlt2 : (cs.take k).length ≤ k := List.length_take_le _ _
              by_cases hjl : j < ns.length
              · obtain ⟨b, off, e0, c0⟩ := srow_at hr0 (hbw.trans (hb1.mono hbw.size)) k hlt
                obtain ⟨b1, off1, e1, c1⟩ := srow_at hr1 (hbw.trans (hb1.mono hbw.size)) j hjl
                subst e0 e1
                have hki : (k : Int) < (cs.length : Int) := by omega
                have hji : (j : Int) < (ns.length : Int) := by omega
                go_wp2
                go_quiet (fail)
                go_wp2
                · have he : (ns[j].toList == cs[k].toList) = true := by assumption
                  go_roundw
                  case rel => exact ⟨k + 1, by omega, by go_num, by rw [lack_in ns cs k hlt (by rw [← str_eq he]; exact List.getElem_mem hjl)], below_drewN hb1 _⟩
                  case measure => simp [intOf]; omega
                · have he : (ns[j].toList == cs[k].toList) = false := by assumption
                  go_roundw
                  case rel => exact ⟨j + 1, by omega, by go_num, rfl, by rw [mem_take_succ hjl]; rintro (h | h); exact hn h; exact str_ne he h.symm, below_drewN hb1 _⟩
                  case measure => simp [intOf]; omega
              · have hne : cs[k] ∉ ns := by rw [List.take_of_length_le (by omega)] at hn; exact hn
                have HM : Hid (cs[k] ∉ ns) := hne
                clear hn hne
                go_wp2
                go_roundw
                case rel => exact ⟨k + 1, by omega, by go_num, by rw [lack_out ns cs k hlt HM.out]; go_num, hb1⟩
                case measure => simp [intOf]; omega
          · have hke : cs.take k = cs := List.take_of_length_le (by omega)
            have hlk := lack_le ns cs
            go_wp2
            rw [hke]
            clear hke hk hlt
            go_loopw [8, 12] (fun t i wr => ∃ j : Nat, j ≤ ns.length ∧ i = .int .i64 j ∧ t = .int .i64 (lack ns cs + lack cs (ns.take j) : Nat) ∧ Below wc.heap.size wc wr) (fun _ i _ => ns.length - (intOf i).toNat)
            case atStart => exact ⟨0, by omega, rfl, by simp [lack], hb1⟩
            case round =>
              clear hb1
              obtain ⟨j, hj, rfl, rfl, hb1⟩ := hrel
              by_cases hjl : j < ns.length
              · go_wp2
                go_loopw [13, 14] (fun f i wr => ∃ k : Nat, k ≤ cs.length ∧ i = .int .i64 k ∧ f = .bool false ∧ ns[j] ∉ cs.take k ∧ Below wc.heap.size wc wr) (fun _ i _ => cs.length - (intOf i).toNat)
                case atStart => exact ⟨0, by omega, rfl, rfl, by simp, hb1⟩
                case round =>
                  clear hb1
                  obtain ⟨k, hk, rfl, rfl, hn, hb1⟩ := hrel
                  have hlk2 := lack_le cs (ns.take j)
                  have hlt2 : (ns.take j).length ≤ j := List.length_take_le _ _
                  by_cases hlt : k < cs.length
                  · obtain ⟨b, off, e0, c0⟩ := srow_at hr0 (hbw.trans (hb1.mono hbw.size)) k hlt
                    obtain ⟨b1, off1, e1, c1⟩ := srow_at hr1 (hbw.trans (hb1.mono hbw.size)) j hjl
                    subst e0 e1
                    have hki : (k : Int) < (cs.length : Int) := by omega
                    have hji : (j : Int) < (ns.length : Int) := by omega
                    go_wp2
                    go_quiet (fail)
                    go_wp2
                    · have he : (cs[k].toList == ns[j].toList) = true := by assumption
                      go_roundw
                      case rel => exact ⟨j + 1, by omega, by go_num, by rw [lack_in cs ns j hjl (by rw [← str_eq he]; exact List.getElem_mem hlt)], below_drewN hb1 _⟩
                      case measure => simp [intOf]; omega
                    · have he : (cs[k].toList == ns[j].toList) = false := by assumption
                      go_roundw
                      case rel => exact ⟨k + 1, by omega, by go_num, rfl, by rw [mem_take_succ hlt]; rintro (h | h); exact hn h; exact str_ne he h.symm, below_drewN hb1 _⟩
                      case measure => simp [intOf]; omega
                  · have hne : ns[j] ∉ cs := by rw [List.take_of_length_le (by omega)] at hn; exact hn
                    have HM : Hid (ns[j] ∉ cs) := hne
                    clear hn hne
                    go_wp2
                    go_roundw
                    case rel => exact ⟨j + 1, by omega, by go_num, by rw [lack_out cs ns j hjl HM.out]; go_num, hb1⟩
                    case measure => simp [intOf]; omega
              · have hke : ns.take j = ns := List.take_of_length_le (by omega)
                go_wp2_with fail
                rw [hke]
                clear hke hj hjl
                have hb2 := hbw.trans (hb1.mono hbw.size)
                have hP2 := PInv.below hP.out hb1
                obtain ⟨aC, capC, hC1, hC2, hC3⟩ := hP2.crow
                have hFr : F.answers wr.tape := by rw [hb2.tape]; exact hF
                refine (wrong_any F cs ns w.heap.size aC a1 capC cap1 wr hFr hl0 hl1 hC2 (hr1.keep hb2 hb2.size) hC3 hC1).mono ?_
                rintro e w2 ⟨v, rfl, hgot, hbg⟩
                obtain ⟨hg0, ag, capg, rfl⟩ := got_shape hgot
                have HG0 : Hid (lack ns cs + lack cs ns = 0 → Value.slice ag (lack ns cs + lack cs ns) capg = .slice none 0 0) := hg0
                have hlk2 := lack_le cs ns
                clear hg0 hgot hC1 hC2 hC3 hP2
                go_upto_if 110 with fail
                go_cut [] (fun w3 => w3 = w2)
                case first =>
                  by_cases hz : lack ns cs + lack cs ns = 0
                  · have hq := HG0.out hz
                    injection hq with q1 q2 q3
                    subst q1
                    have hzi : ((lack ns cs : Int) + (lack cs ns : Int)) = 0 := by omega
                    go_wp2
                    go_meet
                    case rel => rfl
                  · go_wp2
                    go_meet
                    case rel => rfl
                case rest =>
                  subst hcut
                  go_wp2
                  have hb3 := hb2.trans (hbg.mono hb2.size)
                  have hb4 := hb1.trans (hbg.mono hb1.size)
                  have hPn : Hid (PInv w.heap.size wc cs.length cs) := PInv.below hP.out hb4
                  go_loopw [16] (fun i wr => ∃ j : Nat, j ≤ ns.length ∧ i = .int .i64 j ∧ Below wc.heap.size wc wr) (fun i _ => ns.length - (intOf i).toNat)
                  case atStart => exact ⟨0, by omega, rfl, Below.refl _ _⟩
                  case round =>
                    obtain ⟨j, hj, rfl, hb5⟩ := hrel
                    by_cases hjl : j < ns.length
                    · obtain ⟨b, off, e0, c0⟩ := srow_at hr1 (hb3.trans (hb5.mono hb3.size)) j hjl
                      obtain ⟨b1, off1, e1, c1⟩ := srow_at hrc (hb4.trans (hb5.mono hb4.size)) j hjl
                      subst e0 e1
                      have hji : (j : Int) < (ns.length : Int) := by omega
                      go_wp2
                      go_quiet (fail)
                      go_wp2
                      go_roundw
                      case rel => exact ⟨j + 1, by omega, by go_num, below_drewN hb5 _⟩
                      case measure => simp [intOf]; omega
                    · obtain ⟨aP, capP, hP1, hP2, hP3⟩ := (PInv.below hPn.out hb5).crow
                      go_wp2
                      clear hj hjl
                      go_loopw [17] (fun i wr => ∃ j : Nat, j ≤ cs.length ∧ i = .int .i64 j ∧ Below wc.heap.size wc wr) (fun i _ => cs.length - (intOf i).toNat)
                      case atStart => exact ⟨0, by omega, rfl, hb5⟩
                      case round =>
                        clear hP1 hP2 hP3 hb5
                        obtain ⟨j, hj, rfl, hb5⟩ := hrel
                        by_cases hjl : j < cs.length
                        · obtain ⟨aP, capP, hP1, hP2, hP3⟩ := (PInv.below hPn.out hb5).crow
                          obtain ⟨b, off, e0, c0⟩ := srow_at hr0 (hb3.trans (hb5.mono hb3.size)) j hjl
                          rcases hP2 with hP2 | ⟨b1, off1, e1, hb1', hc1⟩
                          · subst hP2; simp at hjl
                          obtain ⟨c1, c2⟩ := hc1 j hjl
                          subst e0 e1
                          have hji : (j : Int) < (cs.length : Int) := by omega
                          clear hc1
                          go_wp2
                          go_quiet (fail)
                          go_wp2
                          go_roundw
                          case rel => exact ⟨j + 1, by omega, by go_num, below_drewN hb5 _⟩
                          case measure => simp [intOf]; omega
                        · go_wp2
                          go_ret
                          exact ⟨rfl, hb3.trans (hb5.mono hb3.size)⟩
end Go.Proofs.YbulkdsewFmt
