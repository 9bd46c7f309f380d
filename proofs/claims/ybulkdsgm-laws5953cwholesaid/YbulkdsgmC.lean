/-
  LawS5953CWhole: the arguments opened, the row.
-/
import Derived.Test.YbulkdsgmB
import Derived.ProofKit
import Derived.OpenShut
import Derived.ChangeOld
import Derived.Deep.Slices
import Derived.Deep.Strs
namespace Go.Proofs.Ybulkdsgm
open Go.ChangeShapes Go.WideShapes Go.ChangeAt Go.RowKit
set_option linter.unusedVariables false

theorem own : ownKnob Yba.prog.godebug = none := by kernel_rfl
theorem laidOut : laidOutB Yba.prog = true := by kernel_rfl
theorem cells25 : Yba.prog.cellsOf 25 = 3 := by kernel_rfl
theorem cells4 : Yba.prog.cellsOf 4 = 1 := by kernel_rfl
theorem cells3 : Yba.prog.cellsOf 3 = 1 := by kernel_rfl

/-- What the walk is told of a slice of the plain data that came in. -/
def Came (w : World) (a : Option Addr) (len cap : Nat) : Prop :=
  (a = none ∧ len = 0 ∧ cap = 0) ∨ ∃ (x : Addr) (f : Nat → G), a = some x ∧ len ≤ maxLen ∧ ∀ i, i < len → w.cell? ((x.add (i * 3)).add 0) = some (.bool (f i).active) ∧ w.cell? ((x.add (i * 3)).add 1) = some (.int .i64 (f i).sent) ∧ w.cell? ((x.add (i * 3)).add 2) = some (.int .i64 (f i).taken)

theorem lt_of_cell {w : World} {a : Addr} {v : Value} (h : w.cell? a = some v) : a.block < w.heap.size := by
  rcases Nat.lt_or_ge a.block w.heap.size with h' | h'
  · exact h'
  · simp [World.cell?, Array.getElem?_eq_none h'] at h
theorem list3 {α : Type} {cs : List α} (h : cs.length = 3) : ∃ c0 c1 c2, cs = [c0, c1, c2] := by
  match cs, h with
  | [c0, c1, c2], _ => exact ⟨c0, c1, c2, rfl⟩
theorem elem_of {H : Type} {enc : TypeId × Value → H} {W : World} {n : Nat} {x : Addr} {cs' : List Value} {y : DataW H × List MemPlace} (hc : W.cells? 0 x 3 = some cs') (ht : DataW.trod enc Yba.prog W 0 (fun _ => true) true n 25 cs' = some y) :
    ∃ q : G, W.cell? (x.add 0) = some (.bool q.active) ∧ W.cell? (x.add 1) = some (.int .i64 q.sent) ∧ W.cell? (x.add 2) = some (.int .i64 q.taken) := by
  obtain ⟨y0, y1, y2, m, _, hl, g0, g1, g2⟩ := Deep.trod_struct3 Yba.underlying25 ht
  rw [cells25] at hl
  obtain ⟨c0, c1, c2, rfl⟩ := list3 hl
  simp only [cells4, cells3, List.drop_zero, List.drop_succ_cons, List.take_succ_cons, List.take_zero] at g0 g1 g2
  obtain ⟨n0, e0, _⟩ := DataW.trod_bool Yba.underlying4 g0
  obtain ⟨n1, e1, _, _⟩ := DataW.trod_int Yba.underlying3 g1
  obtain ⟨n2, e2, _, _⟩ := DataW.trod_int Yba.underlying3 g2
  simp at e0 e1 e2
  subst e0 e1 e2
  have hs := World.cells?_some hc
  exact ⟨⟨n0, n1, n2⟩, hs.2.2 0 (by omega), hs.2.2 1 (by omega), hs.2.2 2 (by omega)⟩

theorem opened {H : Type} {enc : TypeId × Value → H} {W : World} {fuel : Nat} {a : Option Addr} {len cap : Nat} {x : DataW H × List MemPlace}
    (hf : DataW.trod enc Yba.prog W 0 (fun _ => true) true fuel 22 (Value.slice a len cap).cells.toList = some x) : Came W a len cap := by
  rcases Deep.open_slice Yba.underlying22 hf with ⟨hcs, _⟩ | ⟨y, l, c, m, n, D, Pl, hcs, _, hl, hm, hmm, _, hall⟩
  · simp [Value.cells] at hcs
    exact .inl hcs
  · simp [Value.cells] at hcs
    obtain ⟨rfl, rfl, rfl⟩ := hcs
    simp at hmm
    subst hmm
    have he : ∀ i, i < len → ∃ q : G, W.cell? ((y.add (i * 3)).add 0) = some (.bool q.active) ∧ W.cell? ((y.add (i * 3)).add 1) = some (.int .i64 q.sent) ∧ W.cell? ((y.add (i * 3)).add 2) = some (.int .i64 q.taken) := by
      intro i hi
      obtain ⟨cs', h1, h2⟩ := hall i (by omega)
      rw [cells25] at h1
      exact elem_of h1 h2
    refine .inr ⟨y, fun i => if h : i < len then Classical.choose (he i h) else ⟨false, 0, 0⟩, rfl, by omega, fun i hi => ?_⟩
    simp only [dif_pos hi]
    exact Classical.choose_spec (he i hi)

theorem Came.prow {w : World} {a : Option Addr} {len cap : Nat} (h : Came w a len cap) : ∃ ps : List G, len = ps.length ∧ PRow w.heap.size w a ps ∧ (a = none → ps = [] ∧ cap = 0) := by
  rcases h with ⟨rfl, rfl, rfl⟩ | ⟨x, f, rfl, _, hc⟩
  · exact ⟨[], rfl, .inl rfl, fun _ => ⟨rfl, rfl⟩⟩
  · refine ⟨(List.range len).map f, by simp, ?_, fun h => by cases h⟩
    by_cases h0 : len = 0
    · left; subst h0; simp
    · right
      have c0 := (hc 0 (by omega)).1
      obtain ⟨b, off, spot⟩ := x
      have hspot : spot = none := by simpa [Addr.add] using World.cell?_spot c0
      subst hspot
      refine ⟨b, off, rfl, by simpa [Addr.add] using lt_of_cell c0, fun i hi => ?_⟩
      have hi' : i < len := by simpa using hi
      have := hc i hi'
      simp only [Go.WideShapes.add_plain, Nat.add_zero] at this
      simpa using this
theorem Came.le {w : World} {a : Option Addr} {len cap : Nat} (h : Came w a len cap) : len ≤ maxLen := by
  rcases h with ⟨_, rfl, _⟩ | ⟨_, _, _, h, _⟩
  · exact Nat.zero_le _
  · exact h

set_option maxRecDepth 20000 in
set_option maxHeartbeats 400000 in
theorem law_long (len cap : Nat) (a : Option Addr) (d : Int) (w : World) (h0 : 1048576 < len) (hm : len ≤ maxLen) :
    Calls Yba.prog 3 #[.slice a len cap, .int .i64 d] w fun e w' => e = .returned (.bool true) ∧ Below w.heap.size w w' := by
  unfold maxLen at hm
  go_enter Yba.func3, Yba.ntmps3
  go_wp2
  go_ret
  exact ⟨rfl, Below.refl _ _⟩

theorem law_any (a : Option Addr) (len cap : Nat) (d : Int) (w : World) (h : Came w a len cap) :
    Calls Yba.prog 3 #[.slice a len cap, .int .i64 d] w fun e w' => e = .returned (.bool true) ∧ Below w.heap.size w w' := by
  by_cases hl0 : 1048576 < len
  · exact law_long len cap a d w hl0 h.le
  obtain ⟨ps, rfl, hr, hn⟩ := h.prow
  exact law_main ps a cap d w (by omega) hr hn

set_option maxRecDepth 100000 in
theorem lifted (os : Os) (started : os.Started) (H : Type) (enc : TypeId × Value → H) :
    ReturnsInHanded {} Yba.checked os 3 .any (Rows.lawS5953CWholeSpec.pre6 enc Yba.prog Yba.f3 Rows.lawS5953CWholeRow.domain false) (Rows.lawS5953CWholeSpec.post enc Yba.prog Yba.f3 false true false false) := by
  refine returnsInHanded_of_change (C := Yba.checked) own started (by kernel_rfl) Yba.func3
    (ChangeSpec.witness6 (enc := enc) (C := Yba.checked) false ⟨#[], #[.slice none 0 0, .int .i64 0], []⟩ 8 (by kernel_rfl) (by kernel_rfl) (by kernel_rfl) (by kernel_rfl)) ?_
  intro W base args ds gs before hval0 hW hcnd _
  have hval : ∀ (j : Nat) t v, Yba.f3.params[j]? = some t → args[j]? = some v → Value.okWide Yba.prog W .any base t v := hval0
  have hW' := hW
  obtain ⟨p, q, hA0, hV, rfl, hfz, hnd⟩ := hW
  have hA : DataW.TrodAll enc Yba.prog W 0 (fun _ => true) true Yba.f3.params.toList args.toList ds p := hA0
  rw [Yba.params3] at hA hval
  obtain ⟨v0, vs0, d0, ds0, p0, q0, hargs, rfl, rfl, h0, r0⟩ := trodAll_cons hA
  obtain ⟨v1, vs1, d1, ds1, p1, q1, rfl, rfl, rfl, h1, r1⟩ := trodAll_cons r0
  obtain ⟨rfl, rfl, rfl⟩ := trodAll_nil r1
  obtain rfl : args = #[v0, v1] := by cases args; simp_all
  obtain ⟨rfl, rfl⟩ := trodVars_none hV
  obtain ⟨a0, len0, cap0, rfl⟩ := okWide_slice Yba.underlying22 (hval 0 22 v0 rfl rfl)
  have k0 := h0
  have lt0 : ∀ x ∈ p0, x.block < W.heap.size := by obtain ⟨m, hm⟩ := k0; exact DataW.trod_lt m _ _ _ hm
  have c0 : Came W a0 len0 cap0 := by obtain ⟨fuel, hf⟩ := h0; exact opened hf
  obtain ⟨a1, rfl, rfl, rfl, w1⟩ := open_int Yba.underlying2 (hval 1 2 v1 rfl rfl) h1
  clear hA0 hval0
  refine (law_any a0 len0 cap0 a1 W c0).mono fun e W' ⟨he, bel⟩ => ?_
  subst he
  exact ⟨_, rfl, _, _, _, [], _, [], hW', trodAll_mk1 (shut_bool Yba.underlying4 _), (trodAll_cons_mk (Below.trod laidOut (by kernel_rfl) (of_decide_eq_true (by kernel_rfl)) k0 bel lt0) (trodAll_cons_mk (shut_int Yba.underlying2 w1) trodAll_mk0)), rfl, bel.frame _, fun h => by cases h⟩

theorem over : Rows.lawS5953CWholeRow.holds Yba.pinned (OpenSpec.ofChange Rows.lawS5953CWholeSpec) :=
  OpenClaim.holds_of_wide 3 Yba.f3 rfl rfl rfl rfl rfl rfl rfl ⟨rfl, rfl, rfl, rfl, rfl⟩ rfl rfl rfl rfl rfl (by kernel_rfl) Yba.func3 (by kernel_rfl)
    (of_decide_eq_true (by kernel_rfl)) (by unfold Func.isWrapper; first | (rw [if_pos (by decide +kernel)]; kernel_rfl) | (rw [if_neg (by decide +kernel)]; exact ⟨rfl, rfl⟩))
    (fun os started H enc _ => lifted os started H enc)

theorem proved : Rows.LawS5953CWholeSaid := over
end Go.Proofs.Ybulkdsgm
