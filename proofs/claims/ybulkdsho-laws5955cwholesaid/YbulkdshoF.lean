/-
  LawS5955CWhole: the arguments opened, the row.
-/
import Derived.Test.YbulkdshoE
import Derived.ProofKit
import Derived.OpenShut
import Derived.ChangeOld
namespace Go.Proofs.Ybulkdsho.lawS5955CWhole
open Go.ChangeShapes Go.WideShapes Go.ChangeAt Go.RowKit
set_option linter.unusedVariables false

theorem own : ownKnob Yba.prog.godebug = none := by kernel_rfl
theorem laidOut : laidOutB Yba.prog = true := by kernel_rfl
theorem cells34 : Yba.prog.cellsOf 34 = 3 := by kernel_rfl
theorem cells3 : Yba.prog.cellsOf 3 = 1 := by kernel_rfl

theorem list3 {α : Type} {cs : List α} (h : cs.length = 3) : ∃ c0 c1 c2, cs = [c0, c1, c2] := by
  match cs, h with
  | [c0, c1, c2], _ => exact ⟨c0, c1, c2, rfl⟩

theorem array_opened {H : Type} {enc : TypeId × Value → H} {W : World} {fuel : Nat} {cs : Array Value} {x : DataW H × List MemPlace}
    (hf : DataW.trod enc Yba.prog W 0 (fun _ => true) true fuel 34 (Value.agg cs).cells.toList = some x) : ∃ a b c : Int, cs = #[.int .i64 a, .int .i64 b, .int .i64 c] := by
  obtain ⟨xs, m, _, _, hl, hlen, hall⟩ := DataW.trod_array Yba.underlying34 hf
  have hc : (Value.agg cs).cells.toList = cs.toList := rfl
  rw [hc, cells34] at hl
  rw [hc, cells3] at hall
  obtain ⟨c0, c1, c2, e⟩ := list3 hl
  obtain ⟨y0, y1, y2, rfl⟩ := list3 hlen
  rw [e] at hall
  have g0 := hall 0 (by omega)
  have g1 := hall 1 (by omega)
  have g2 := hall 2 (by omega)
  simp only [Nat.mul_one, List.drop_zero, List.drop_succ_cons, List.take_succ_cons, List.take_zero, List.getElem?_cons_zero, List.getElem?_cons_succ] at g0 g1 g2
  obtain ⟨n0, e0, _, _⟩ := DataW.trod_int Yba.underlying3 g0
  obtain ⟨n1, e1, _, _⟩ := DataW.trod_int Yba.underlying3 g1
  obtain ⟨n2, e2, _, _⟩ := DataW.trod_int Yba.underlying3 g2
  simp at e0 e1 e2
  subst e0 e1 e2
  refine ⟨n0, n1, n2, ?_⟩
  obtain ⟨l⟩ := cs
  simp at e
  rw [e]

set_option maxRecDepth 100000 in
theorem lifted (os : Os) (started : os.Started) (H : Type) (enc : TypeId × Value → H) :
    ReturnsInHanded {} Yba.checked os 4 .any (Rows.lawS5955CWholeSpec.pre6 enc Yba.prog Yba.f4 Rows.lawS5955CWholeRow.domain false) (Rows.lawS5955CWholeSpec.post enc Yba.prog Yba.f4 false true false false) := by
  refine returnsInHanded_of_change (C := Yba.checked) own started (by kernel_rfl) Yba.func4
    (ChangeSpec.witness6 (enc := enc) (C := Yba.checked) false ⟨#[], #[.agg #[.int .i64 0, .int .i64 0, .int .i64 0], .agg #[.int .i64 0, .int .i64 0, .int .i64 0]], []⟩ 8 (by kernel_rfl) (by kernel_rfl) (by kernel_rfl) (by kernel_rfl)) ?_
  intro W base args ds gs before hval0 hW hcnd _
  have hval : ∀ (j : Nat) t v, Yba.f4.params[j]? = some t → args[j]? = some v → Value.okWide Yba.prog W .any base t v := hval0
  have hW' := hW
  obtain ⟨p, q, hA0, hV, rfl, hfz, hnd⟩ := hW
  have hA : DataW.TrodAll enc Yba.prog W 0 (fun _ => true) true Yba.f4.params.toList args.toList ds p := hA0
  rw [Yba.params4] at hA hval
  obtain ⟨v0, vs0, d0, ds0, p0, q0, hargs, rfl, rfl, h0, r0⟩ := trodAll_cons hA
  obtain ⟨v1, vs1, d1, ds1, p1, q1, rfl, rfl, rfl, h1, r1⟩ := trodAll_cons r0
  obtain ⟨rfl, rfl, rfl⟩ := trodAll_nil r1
  obtain rfl : args = #[v0, v1] := by cases args; simp_all
  obtain ⟨rfl, rfl⟩ := trodVars_none hV
  obtain ⟨cs, rfl, _, _⟩ : ∃ cs, v0 = .agg cs ∧ cs.size = Yba.prog.cellsOf 34 ∧ Row.okWide Yba.prog W .any base 34 cs := by
    have := hval 0 34 v0 rfl rfl
    simpa [Value.okWide, Yba.underlying34] using this
  obtain ⟨ps, rfl, _, _⟩ : ∃ cs, v1 = .agg cs ∧ cs.size = Yba.prog.cellsOf 34 ∧ Row.okWide Yba.prog W .any base 34 cs := by
    have := hval 1 34 v1 rfl rfl
    simpa [Value.okWide, Yba.underlying34] using this
  have k0 := h0
  have k1 := h1
  have lt0 : ∀ x ∈ p0, x.block < W.heap.size := by obtain ⟨m, hm⟩ := k0; exact DataW.trod_lt m _ _ _ hm
  have lt1 : ∀ x ∈ p1, x.block < W.heap.size := by obtain ⟨m, hm⟩ := k1; exact DataW.trod_lt m _ _ _ hm
  obtain ⟨c0, c1, c2, rfl⟩ : ∃ a b c : Int, cs = #[.int .i64 a, .int .i64 b, .int .i64 c] := by obtain ⟨fuel, hf⟩ := h0; exact array_opened hf
  obtain ⟨b0, b1, b2, rfl⟩ : ∃ a b c : Int, ps = #[.int .i64 a, .int .i64 b, .int .i64 c] := by obtain ⟨fuel, hf⟩ := h1; exact array_opened hf
  clear hA0 hval0
  refine (Shell.law_main c0 c1 c2 b0 b1 b2 W).mono fun e W' ⟨he, bel⟩ => ?_
  subst he
  exact ⟨_, rfl, _, _, _, [], _, [], hW', trodAll_mk1 (shut_bool Yba.underlying4 _), (trodAll_cons_mk (Below.trod laidOut (by kernel_rfl) (of_decide_eq_true (by kernel_rfl)) k0 bel lt0) (trodAll_cons_mk (Below.trod laidOut (by kernel_rfl) (of_decide_eq_true (by kernel_rfl)) k1 bel lt1) trodAll_mk0)), rfl, bel.frame _, fun h => by cases h⟩

theorem over : Rows.lawS5955CWholeRow.holds Yba.pinned (OpenSpec.ofChange Rows.lawS5955CWholeSpec) :=
  OpenClaim.holds_of_wide 4 Yba.f4 rfl rfl rfl rfl rfl rfl rfl ⟨rfl, rfl, rfl, rfl, rfl⟩ rfl rfl rfl rfl rfl (by kernel_rfl) Yba.func4 (by kernel_rfl)
    (of_decide_eq_true (by kernel_rfl)) (by unfold Func.isWrapper; first | (rw [if_pos (by decide +kernel)]; kernel_rfl) | (rw [if_neg (by decide +kernel)]; exact ⟨rfl, rfl⟩))
    (fun os started H enc _ => lifted os started H enc)

theorem proved : Rows.LawS5955CWholeSaid := over
end Go.Proofs.Ybulkdsho.lawS5955CWhole
