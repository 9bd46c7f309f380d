/-
  LawS5952AWhole: the arguments opened, the row.
-/
import Derived.Test.YbulkdsfyD
import Derived.ProofKit
import Derived.OpenShut
import Derived.ChangeOld
import Derived.Deep.Slices
namespace Go.Proofs.Ybulkdsfy
open Go.ChangeShapes Go.WideShapes Go.ChangeAt Go.RowKit
set_option linter.unusedVariables false

theorem own : ownKnob Yba.prog.godebug = none := by kernel_rfl
theorem laidOut : laidOutB Yba.prog = true := by kernel_rfl
theorem cells26 : Yba.prog.cellsOf 26 = 5 := by kernel_rfl
theorem cells22 : Yba.prog.cellsOf 22 = 1 := by kernel_rfl
theorem cells3 : Yba.prog.cellsOf 3 = 1 := by kernel_rfl

/-- What the walk is told of a slice of the plain data that came in. -/
def Came (w : World) (a : Option Addr) (len cap : Nat) : Prop :=
  (a = none ∧ len = 0 ∧ cap = 0) ∨ ∃ (x : Addr) (f : Nat → Q), a = some x ∧ len ≤ maxLen ∧ ∀ i, i < len → w.cell? ((x.add (i * 5)).add 0) = some (.int .u64 (f i).seq) ∧ w.cell? ((x.add (i * 5)).add 1) = some (.int .i64 (f i).sender) ∧
    w.cell? ((x.add (i * 5)).add 2) = some (.int .u64 (f i).ss) ∧ w.cell? ((x.add (i * 5)).add 3) = some (.int .u64 (f i).sentIn) ∧ w.cell? ((x.add (i * 5)).add 4) = some (.int .i64 (f i).size)

theorem lt_of_cell {w : World} {a : Addr} {v : Value} (h : w.cell? a = some v) : a.block < w.heap.size := by
  rcases Nat.lt_or_ge a.block w.heap.size with h' | h'
  · exact h'
  · simp [World.cell?, Array.getElem?_eq_none h'] at h

theorem list5 {α : Type} {cs : List α} (h : cs.length = 5) : ∃ c0 c1 c2 c3 c4, cs = [c0, c1, c2, c3, c4] := by
  match cs, h with
  | [c0, c1, c2, c3, c4], _ => exact ⟨c0, c1, c2, c3, c4, rfl⟩
theorem trod_struct5 {P : Program} {H : Type} {enc : TypeId × Value → H} {w : World} {base : Nat} {spare : Nat → Bool} {held : Bool} {t : TypeId} {f0 f1 f2 f3 f4 : Field} {fuel : Nat} {cs : List Value} {x : DataW H × List MemPlace} (ht : P.underlying t = some (.struct #[f0, f1, f2, f3, f4])) (h : DataW.trod enc P w base spare held fuel t cs = some x) :
    ∃ y0 y1 y2 y3 y4 n, cs.length = P.cellsOf t ∧ DataW.trod enc P w base spare held n f0.type ((cs.drop f0.offset).take (P.cellsOf f0.type)) = some y0 ∧
      DataW.trod enc P w base spare held n f1.type ((cs.drop f1.offset).take (P.cellsOf f1.type)) = some y1 ∧ DataW.trod enc P w base spare held n f2.type ((cs.drop f2.offset).take (P.cellsOf f2.type)) = some y2 ∧
      DataW.trod enc P w base spare held n f3.type ((cs.drop f3.offset).take (P.cellsOf f3.type)) = some y3 ∧ DataW.trod enc P w base spare held n f4.type ((cs.drop f4.offset).take (P.cellsOf f4.type)) = some y4 := by
  obtain ⟨xs, n, _, _, hl, hlen, hf⟩ := DataW.trod_struct ht h
  obtain ⟨y0, y1, y2, y3, y4, rfl⟩ := list5 hlen
  exact ⟨y0, y1, y2, y3, y4, n, hl, by simpa using hf 0 f0 rfl, by simpa using hf 1 f1 rfl, by simpa using hf 2 f2 rfl, by simpa using hf 3 f3 rfl, by simpa using hf 4 f4 rfl⟩
theorem elem_of {H : Type} {enc : TypeId × Value → H} {W : World} {n : Nat} {x : Addr} {cs' : List Value} {y : DataW H × List MemPlace} (hc : W.cells? 0 x 5 = some cs') (ht : DataW.trod enc Yba.prog W 0 (fun _ => true) true n 26 cs' = some y) :
    ∃ q : Q, W.cell? (x.add 0) = some (.int .u64 q.seq) ∧ W.cell? (x.add 1) = some (.int .i64 q.sender) ∧ W.cell? (x.add 2) = some (.int .u64 q.ss) ∧ W.cell? (x.add 3) = some (.int .u64 q.sentIn) ∧ W.cell? (x.add 4) = some (.int .i64 q.size) := by
  obtain ⟨y0, y1, y2, y3, y4, m, hl, g0, g1, g2, g3, g4⟩ := trod_struct5 Yba.underlying26 ht
  rw [cells26] at hl
  obtain ⟨c0, c1, c2, c3, c4, rfl⟩ := list5 hl
  simp only [cells22, cells3, List.drop_zero, List.drop_succ_cons, List.take_succ_cons, List.take_zero] at g0 g1 g2 g3 g4
  obtain ⟨n0, e0, _, _⟩ := DataW.trod_int Yba.underlying22 g0
  obtain ⟨n1, e1, _, _⟩ := DataW.trod_int Yba.underlying3 g1
  obtain ⟨n2, e2, _, _⟩ := DataW.trod_int Yba.underlying22 g2
  obtain ⟨n3, e3, _, _⟩ := DataW.trod_int Yba.underlying22 g3
  obtain ⟨n4, e4, _, _⟩ := DataW.trod_int Yba.underlying3 g4
  simp at e0 e1 e2 e3 e4
  subst e0 e1 e2 e3 e4
  have hs := World.cells?_some hc
  exact ⟨⟨n0, n1, n2, n3, n4⟩, hs.2.2 0 (by omega), hs.2.2 1 (by omega), hs.2.2 2 (by omega), hs.2.2 3 (by omega), hs.2.2 4 (by omega)⟩

theorem opened {H : Type} {enc : TypeId × Value → H} {W : World} {fuel : Nat} {a : Option Addr} {len cap : Nat} {x : DataW H × List MemPlace}
    (hf : DataW.trod enc Yba.prog W 0 (fun _ => true) true fuel 23 (Value.slice a len cap).cells.toList = some x) : Came W a len cap := by
  rcases Deep.open_slice Yba.underlying23 hf with ⟨hcs, _⟩ | ⟨y, l, c, m, n, D, Pl, hcs, _, hl, hm, hmm, _, hall⟩
  · simp [Value.cells] at hcs
    exact .inl hcs
  · simp [Value.cells] at hcs
    obtain ⟨rfl, rfl, rfl⟩ := hcs
    simp at hmm
    subst hmm
    have he : ∀ i, i < len → ∃ q : Q, W.cell? ((y.add (i * 5)).add 0) = some (.int .u64 q.seq) ∧ W.cell? ((y.add (i * 5)).add 1) = some (.int .i64 q.sender) ∧ W.cell? ((y.add (i * 5)).add 2) = some (.int .u64 q.ss) ∧ W.cell? ((y.add (i * 5)).add 3) = some (.int .u64 q.sentIn) ∧ W.cell? ((y.add (i * 5)).add 4) = some (.int .i64 q.size) := by
      intro i hi
      obtain ⟨cs', h1, h2⟩ := hall i (by omega)
      rw [cells26] at h1
      exact elem_of h1 h2
    refine .inr ⟨y, fun i => if h : i < len then Classical.choose (he i h) else ⟨0, 0, 0, 0, 0⟩, rfl, by omega, fun i hi => ?_⟩
    simp only [dif_pos hi]
    exact Classical.choose_spec (he i hi)

theorem Came.qrow {w : World} {a : Option Addr} {len cap : Nat} (h : Came w a len cap) : ∃ qs : List Q, len = qs.length ∧ QRow w.heap.size w a qs := by
  rcases h with ⟨rfl, rfl, rfl⟩ | ⟨x, f, rfl, _, hc⟩
  · exact ⟨[], rfl, .inl rfl⟩
  · refine ⟨(List.range len).map f, by simp, ?_⟩
    by_cases h0 : len = 0
    · left; subst h0; simp
    · right
      have c0 := (hc 0 (by omega)).1
      obtain ⟨b, off, spot⟩ := x
      have hspot : spot = none := by simpa [Addr.add] using World.cell?_spot c0
      subst hspot
      refine ⟨b, off, rfl, by simpa [Addr.add] using lt_of_cell c0, fun i hi => ?_⟩
      have hi' : i < len := by simpa using hi
      have := hc i hi'
      simp only [Go.WideShapes.add_plain, Nat.add_zero] at this
      simpa using this
theorem Came.le {w : World} {a : Option Addr} {len cap : Nat} (h : Came w a len cap) : len ≤ maxLen := by
  rcases h with ⟨_, rfl, _⟩ | ⟨_, _, _, h, _⟩
  · exact Nat.zero_le _
  · exact h

set_option maxRecDepth 20000 in
set_option maxHeartbeats 400000 in
theorem law_long (len cap : Nat) (a : Option Addr) (v s n : Int) (w : World) (h0 : 1048576 < len) (hm : len ≤ maxLen) :
    Calls Yba.prog 3 #[.int .u64 v, .int .i64 s, .int .u64 n, .slice a len cap] w fun e w' => e = .returned (.bool true) ∧ Below w.heap.size w w' := by
  unfold maxLen at hm
  go_enter Yba.func3, Yba.ntmps3
  go_wp2
  go_ret
  exact ⟨rfl, Below.refl _ _⟩

theorem law_any (a : Option Addr) (len cap : Nat) (v s n : Int) (w : World) (h : Came w a len cap) :
    Calls Yba.prog 3 #[.int .u64 v, .int .i64 s, .int .u64 n, .slice a len cap] w fun e w' => e = .returned (.bool true) ∧ Below w.heap.size w w' := by
  by_cases hl0 : 1048576 < len
  · exact law_long len cap a v s n w hl0 h.le
  obtain ⟨qs, rfl, hr⟩ := h.qrow
  exact law_main qs a cap v s n w (by omega) hr

set_option maxRecDepth 100000 in
theorem lifted (os : Os) (started : os.Started) (H : Type) (enc : TypeId × Value → H) :
    ReturnsInHanded {} Yba.checked os 3 .any (Rows.lawS5952AWholeSpec.pre6 enc Yba.prog Yba.f3 Rows.lawS5952AWholeRow.domain false) (Rows.lawS5952AWholeSpec.post enc Yba.prog Yba.f3 false true false false) := by
  refine returnsInHanded_of_change (C := Yba.checked) own started (by kernel_rfl) Yba.func3
    (ChangeSpec.witness6 (enc := enc) (C := Yba.checked) false ⟨#[], #[.int .u64 0, .int .i64 0, .int .u64 0, .slice none 0 0], []⟩ 8 (by kernel_rfl) (by kernel_rfl) (by kernel_rfl) (by kernel_rfl)) ?_
  intro W base args ds gs before hval0 hW hcnd _
  have hval : ∀ (j : Nat) t v, Yba.f3.params[j]? = some t → args[j]? = some v → Value.okWide Yba.prog W .any base t v := hval0
  have hW' := hW
  obtain ⟨p, q, hA0, hV, rfl, hfz, hnd⟩ := hW
  have hA : DataW.TrodAll enc Yba.prog W 0 (fun _ => true) true Yba.f3.params.toList args.toList ds p := hA0
  rw [Yba.params3] at hA hval
  obtain ⟨v0, vs0, d0, ds0, p0, q0, hargs, rfl, rfl, h0, r0⟩ := trodAll_cons hA
  obtain ⟨v1, vs1, d1, ds1, p1, q1, rfl, rfl, rfl, h1, r1⟩ := trodAll_cons r0
  obtain ⟨v2, vs2, d2, ds2, p2, q2, rfl, rfl, rfl, h2, r2⟩ := trodAll_cons r1
  obtain ⟨v3, vs3, d3, ds3, p3, q3, rfl, rfl, rfl, h3, r3⟩ := trodAll_cons r2
  obtain ⟨rfl, rfl, rfl⟩ := trodAll_nil r3
  obtain rfl : args = #[v0, v1, v2, v3] := by cases args; simp_all
  obtain ⟨rfl, rfl⟩ := trodVars_none hV
  obtain ⟨a0, rfl, rfl, rfl, w0⟩ := open_int Yba.underlying22 (hval 0 22 v0 rfl rfl) h0
  obtain ⟨a1, rfl, rfl, rfl, w1⟩ := open_int Yba.underlying3 (hval 1 3 v1 rfl rfl) h1
  obtain ⟨a2, rfl, rfl, rfl, w2⟩ := open_int Yba.underlying22 (hval 2 22 v2 rfl rfl) h2
  obtain ⟨a3, len3, cap3, rfl⟩ := okWide_slice Yba.underlying23 (hval 3 23 v3 rfl rfl)
  have k3 := h3
  have lt3 : ∀ x ∈ p3, x.block < W.heap.size := by obtain ⟨m, hm⟩ := k3; exact DataW.trod_lt m _ _ _ hm
  have c3 : Came W a3 len3 cap3 := by obtain ⟨fuel, hf⟩ := h3; exact opened hf
  clear hA0 hval0
  refine (law_any a3 len3 cap3 a0 a1 a2 W c3).mono fun e W' ⟨he, bel⟩ => ?_
  subst he
  exact ⟨_, rfl, _, _, _, [], _, [], hW', trodAll_mk1 (shut_bool Yba.underlying4 _), (trodAll_cons_mk (shut_int Yba.underlying22 w0) (trodAll_cons_mk (shut_int Yba.underlying3 w1) (trodAll_cons_mk (shut_int Yba.underlying22 w2) (trodAll_cons_mk (Below.trod laidOut (by kernel_rfl) (of_decide_eq_true (by kernel_rfl)) k3 bel lt3) trodAll_mk0)))), rfl, bel.frame _, fun h => by cases h⟩

theorem lawS5952AWhole_over : Rows.lawS5952AWholeRow.holds Yba.pinned (OpenSpec.ofChange Rows.lawS5952AWholeSpec) :=
  OpenClaim.holds_of_wide 3 Yba.f3 rfl rfl rfl rfl rfl rfl rfl ⟨rfl, rfl, rfl, rfl, rfl⟩ rfl rfl rfl rfl rfl (by kernel_rfl) Yba.func3 (by kernel_rfl)
    (of_decide_eq_true (by kernel_rfl)) (by unfold Func.isWrapper; first | (rw [if_pos (by decide +kernel)]; kernel_rfl) | (rw [if_neg (by decide +kernel)]; exact ⟨rfl, rfl⟩))
    (fun os started H enc _ => lifted os started H enc)

theorem lawS5952AWhole_proved : Rows.LawS5952AWholeSaid := lawS5952AWhole_over
end Go.Proofs.Ybulkdsfy
