/-
  LawS5952CRoundTrip: the arguments opened, the row.
-/
import Derived.Test.YbulkdsfyM
import Derived.ProofKit
import Derived.OpenShut
import Derived.ChangeOld
namespace Go.Proofs.Ybulkdsfy.lawS5952CRoundTrip
open Go.ChangeShapes Go.WideShapes Go.ChangeAt Go.RowKit
set_option linter.unusedVariables false

theorem own : ownKnob Yba.prog.godebug = none := by kernel_rfl
theorem laidOut : laidOutB Yba.prog = true := by kernel_rfl
theorem cells106 : Yba.prog.cellsOf 106 = 14 := by kernel_rfl
theorem cells5 : Yba.prog.cellsOf 5 = 1 := by kernel_rfl

/-- What the walk is told of a slice of bytes that came in. -/
def IsRow (w : World) (a : Option Addr) (len cap : Nat) (zs : List Int) : Prop :=
  (a = none ∧ len = 0 ∧ cap = 0 ∧ zs = []) ∨
  ∃ x, a = some x ∧ len ≤ cap ∧ cap ≤ maxLen ∧ zs.length = cap ∧ (∀ i, i < zs.length → w.cell? (x.add i) = some (.int .u8 (zs.getD i 0))) ∧ ∀ n ∈ zs, (Lit.int .u8 n).wf = true

theorem u64_range {x : Int} (h : (Lit.int .u64 x).wf = true) : 0 ≤ x ∧ x < 18446744073709551616 := by
  simp [Lit.wf, IntKind.min, IntKind.max, IntKind.signed, IntKind.bits] at h
  omega

theorem bytes_list : ∀ l : List Value, (∀ i, i < l.length → ∃ n, (l.drop i).take 1 = [.int .u8 n]) → ∃ hs, l = Wire.bv hs
  | [], _ => ⟨[], rfl⟩
  | v :: l, h => by
    obtain ⟨n, hn⟩ := h 0 (by simp)
    obtain ⟨hs, rfl⟩ := bytes_list l fun i hi => by simpa using h (i + 1) (by simpa using hi)
    simp at hn
    exact ⟨n :: hs, by rw [hn]; rfl⟩

theorem array_opened {H : Type} {enc : TypeId × Value → H} {W : World} {fuel : Nat} {cs : Array Value} {x : DataW H × List MemPlace}
    (hf : DataW.trod enc Yba.prog W 0 (fun _ => true) true fuel 106 (Value.agg cs).cells.toList = some x) : ∃ hs : List Int, cs = (Wire.bv hs).toArray ∧ hs.length = 14 := by
  obtain ⟨xs, m, _, _, hl, hlen, hall⟩ := DataW.trod_array Yba.underlying106 hf
  have hc : (Value.agg cs).cells.toList = cs.toList := rfl
  rw [hc, cells106] at hl
  rw [hc, cells5] at hall
  obtain ⟨hs, hhs⟩ := bytes_list cs.toList fun i hi => by
    have h1 := hall i (by omega)
    rw [Nat.mul_one] at h1
    rw [List.getElem?_eq_getElem (by omega)] at h1
    obtain ⟨n, e, _, _⟩ := DataW.trod_int Yba.underlying5 h1
    exact ⟨n, e⟩
  refine ⟨hs, ?_, by rw [hhs, Wire.bv_len] at hl; exact hl⟩
  rw [← hhs]

set_option maxRecDepth 20000 in
set_option maxHeartbeats 400000 in
theorem walk_long (hs : List Int) (a1 : Option Addr) (len1 cap1 : Nat) (a2 a3 a4 a5 : Int) (w : World) (h0 : 1048576 < len1) (hm : len1 ≤ maxLen) :
    Calls Yba.prog 5 #[.agg (Wire.bv hs).toArray, .slice a1 len1 cap1, .int .u64 a2, .int .u64 a3, .int .i64 a4, .int .u64 a5] w fun e w' => e = .returned (.bool true) ∧ Below w.heap.size w w' := by
  unfold maxLen at hm
  go_enter Yba.func5, Yba.ntmps5
  go_wp2
  go_ret
  exact ⟨rfl, (Below.refl _ _).alloc (Nat.le_refl _) _⟩

theorem walk (hs : List Int) (a1 : Option Addr) (len1 cap1 : Nat) (z1 : List Int) (a2 a3 a4 a5 : Int) (w : World) (h14 : hs.length = 14) (w1 : IsRow w a1 len1 cap1 z1) (w2 : (Lit.int .u64 a2).wf = true) (w3 : (Lit.int .u64 a3).wf = true) (w5 : (Lit.int .u64 a5).wf = true) :
    Calls Yba.prog 5 #[.agg (Wire.bv hs).toArray, .slice a1 len1 cap1, .int .u64 a2, .int .u64 a3, .int .i64 a4, .int .u64 a5] w fun e w' => e = .returned (.bool true) ∧ Below w.heap.size w w' := by
  obtain ⟨b2, b2'⟩ := u64_range w2
  obtain ⟨b3, b3'⟩ := u64_range w3
  obtain ⟨b5, b5'⟩ := u64_range w5
  by_cases hlong : 1048576 < len1
  · have hm : len1 ≤ maxLen := by
      rcases w1 with ⟨_, h, _, _⟩ | ⟨_, _, h1, h2, _⟩ <;> omega
    exact walk_long hs a1 len1 cap1 a2 a3 a4 a5 w hlong hm
  · have hlen : (z1.take len1).length = len1 := by
      rcases w1 with ⟨_, rfl, _, rfl⟩ | ⟨_, _, h1, _, h3, _⟩
      · rfl
      · rw [List.length_take]; omega
    have hb : Wire.BRow w a1 (z1.take len1) := by
      rcases w1 with ⟨_, rfl, _, rfl⟩ | ⟨x, rfl, h1, _, h3, hc, _⟩
      · exact .inl rfl
      · by_cases h0 : len1 = 0
        · left; subst h0; rfl
        · obtain ⟨b, off, rfl, hcc⟩ := ints_at hc (by omega)
          refine .inr ⟨b, off, rfl, fun i hi => ?_⟩
          rw [hcc i (by omega)]
          simp [List.getD, show i < z1.length by omega]
    have hn : a1 = none → z1.take len1 = [] ∧ cap1 = 0 := by
      intro h
      rcases w1 with ⟨_, rfl, h2, rfl⟩ | ⟨_, h1, _⟩
      · exact ⟨rfl, h2⟩
      · rw [h] at h1; cases h1
    have := Wire.round_main hs (z1.take len1) a1 cap1 a2 a3 a4 a5 w h14 (by omega) hb hn b2 b2' b3 b3' b5 b5'
    rwa [hlen] at this

set_option maxRecDepth 100000 in
theorem lifted (os : Os) (started : os.Started) (H : Type) (enc : TypeId × Value → H) :
    ReturnsInHanded {} Yba.checked os 5 .any (Rows.lawS5952CRoundTripSpec.pre6 enc Yba.prog Yba.f5 Rows.lawS5952CRoundTripRow.domain false) (Rows.lawS5952CRoundTripSpec.post enc Yba.prog Yba.f5 false true false false) := by
  refine returnsInHanded_of_change (C := Yba.checked) own started (by kernel_rfl) Yba.func5
    (ChangeSpec.witness6 (enc := enc) (C := Yba.checked) false ⟨#[], #[.agg #[.int .u8 0, .int .u8 0, .int .u8 0, .int .u8 0, .int .u8 0, .int .u8 0, .int .u8 0, .int .u8 0, .int .u8 0, .int .u8 0, .int .u8 0, .int .u8 0, .int .u8 0, .int .u8 0], .slice none 0 0, .int .u64 0, .int .u64 0, .int .i64 0, .int .u64 0], []⟩ 8 (by kernel_rfl) (by kernel_rfl) (by kernel_rfl) (by kernel_rfl)) ?_
  intro W base args ds gs before hval0 hW hcnd _
  have hval : ∀ (j : Nat) t v, Yba.f5.params[j]? = some t → args[j]? = some v → Value.okWide Yba.prog W .any base t v := hval0
  have hW' := hW
  obtain ⟨p, q, hA0, hV, rfl, hfz, hnd⟩ := hW
  have hA : DataW.TrodAll enc Yba.prog W 0 (fun _ => true) true Yba.f5.params.toList args.toList ds p := hA0
  rw [Yba.params5] at hA hval
  obtain ⟨v0, vs0, d0, ds0, p0, q0, hargs, rfl, rfl, h0, r0⟩ := trodAll_cons hA
  obtain ⟨v1, vs1, d1, ds1, p1, q1, rfl, rfl, rfl, h1, r1⟩ := trodAll_cons r0
  obtain ⟨v2, vs2, d2, ds2, p2, q2, rfl, rfl, rfl, h2, r2⟩ := trodAll_cons r1
  obtain ⟨v3, vs3, d3, ds3, p3, q3, rfl, rfl, rfl, h3, r3⟩ := trodAll_cons r2
  obtain ⟨v4, vs4, d4, ds4, p4, q4, rfl, rfl, rfl, h4, r4⟩ := trodAll_cons r3
  obtain ⟨v5, vs5, d5, ds5, p5, q5, rfl, rfl, rfl, h5, r5⟩ := trodAll_cons r4
  obtain ⟨rfl, rfl, rfl⟩ := trodAll_nil r5
  obtain rfl : args = #[v0, v1, v2, v3, v4, v5] := by cases args; simp_all
  obtain ⟨rfl, rfl⟩ := trodVars_none hV
  obtain ⟨cs, rfl, hsz, _⟩ : ∃ cs, v0 = .agg cs ∧ cs.size = Yba.prog.cellsOf 106 ∧ Row.okWide Yba.prog W .any base 106 cs := by
    have := hval 0 106 v0 rfl rfl
    simpa [Value.okWide, Yba.underlying106] using this
  have k0 := h0
  have lt0 : ∀ x ∈ p0, x.block < W.heap.size := by obtain ⟨m, hm⟩ := k0; exact DataW.trod_lt m _ _ _ hm
  obtain ⟨hs, rfl, h14⟩ : ∃ hs : List Int, cs = (Wire.bv hs).toArray ∧ hs.length = 14 := by obtain ⟨fuel, hf⟩ := h0; exact array_opened hf
  obtain ⟨a1, len1, cap1, rfl⟩ := okWide_slice Yba.underlying28 (hval 1 28 v1 rfl rfl)
  have k1 := h1
  have lt1 : ∀ x ∈ p1, x.block < W.heap.size := by obtain ⟨m, hm⟩ := k1; exact DataW.trod_lt m _ _ _ hm
  obtain ⟨z1, w1⟩ : ∃ zs, IsRow W a1 len1 cap1 zs := by
    obtain ⟨fuel, hf⟩ := h1
    rcases open_ints Yba.underlying28 Yba.underlying5 (by kernel_rfl) hf with ⟨hcs, _⟩ | ⟨x, l, c, zs, hcs, _, hl, hm, hz, _, hcell, hwz⟩
    · simp [Value.cells] at hcs
      obtain ⟨rfl, rfl, rfl⟩ := hcs
      exact ⟨[], .inl ⟨rfl, rfl, rfl, rfl⟩⟩
    · simp [Value.cells] at hcs
      obtain ⟨rfl, rfl, rfl⟩ := hcs
      exact ⟨zs, .inr ⟨_, rfl, hl, hm, by simpa using hz, hcell, hwz⟩⟩
  obtain ⟨a2, rfl, rfl, rfl, w2⟩ := open_int Yba.underlying22 (hval 2 22 v2 rfl rfl) h2
  obtain ⟨a3, rfl, rfl, rfl, w3⟩ := open_int Yba.underlying22 (hval 3 22 v3 rfl rfl) h3
  obtain ⟨a4, rfl, rfl, rfl, w4⟩ := open_int Yba.underlying3 (hval 4 3 v4 rfl rfl) h4
  obtain ⟨a5, rfl, rfl, rfl, w5⟩ := open_int Yba.underlying22 (hval 5 22 v5 rfl rfl) h5
  clear hA0 hval0
  refine (walk hs a1 len1 cap1 z1 a2 a3 a4 a5 W h14 w1 w2 w3 w5).mono fun e W' ⟨he, bel⟩ => ?_
  subst he
  exact ⟨_, rfl, _, _, _, [], _, [], hW', trodAll_mk1 (shut_bool Yba.underlying4 _), (trodAll_cons_mk (Below.trod laidOut (by kernel_rfl) (of_decide_eq_true (by kernel_rfl)) k0 bel lt0) (trodAll_cons_mk (Below.trod laidOut (by kernel_rfl) (of_decide_eq_true (by kernel_rfl)) k1 bel lt1) (trodAll_cons_mk (shut_int Yba.underlying22 w2) (trodAll_cons_mk (shut_int Yba.underlying22 w3) (trodAll_cons_mk (shut_int Yba.underlying3 w4) (trodAll_cons_mk (shut_int Yba.underlying22 w5) trodAll_mk0)))))), rfl, bel.frame _, fun h => by cases h⟩

theorem over : Rows.lawS5952CRoundTripRow.holds Yba.pinned (OpenSpec.ofChange Rows.lawS5952CRoundTripSpec) :=
  OpenClaim.holds_of_wide 5 Yba.f5 rfl rfl rfl rfl rfl rfl rfl ⟨rfl, rfl, rfl, rfl, rfl⟩ rfl rfl rfl rfl rfl (by kernel_rfl) Yba.func5 (by kernel_rfl)
    (of_decide_eq_true (by kernel_rfl)) (by unfold Func.isWrapper; first | (rw [if_pos (by decide +kernel)]; kernel_rfl) | (rw [if_neg (by decide +kernel)]; exact ⟨rfl, rfl⟩))
    (fun os started H enc _ => lifted os started H enc)

theorem proved : Rows.LawS5952CRoundTripSaid := over
end Go.Proofs.Ybulkdsfy.lawS5952CRoundTrip
