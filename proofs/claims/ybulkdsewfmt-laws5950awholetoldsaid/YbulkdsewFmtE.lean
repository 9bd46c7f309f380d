/-
  The law's card: fmt's text told (the walk holds for whatever text fmt gives).
-/
import Derived.Test.YbulkdsewFmtD
import Derived.Test.YbulkdsewFmtCards
import Derived.ProofKit
import Derived.ChangeOld
import Derived.Stop.JoinedAt
import Derived.Stop.JoinedTold
import Derived.SevenToldRow
import Derived.SliceStrings
namespace Go.Proofs.YbulkdsewFmt
open Go.ChangeShapes Go.WideShapes Go.ChangeAt Go.RowKit Go.Kit
open Go.Extern.Stop Go.Stop Go.Extern

theorem own : ownKnob Ybaf.prog.godebug = none := by kernel_rfl
theorem laidOut : laidOutB Ybaf.pinned.checked.prog = true := by kernel_rfl
theorem stopsAre : Ybaf.pinned.checked.prog.stops = ["fmt.Sprintf"] := by kernel_rfl
theorem stopKnobsAre : Ybaf.pinned.checked.prog.stopKnobs = [] := by kernel_rfl
theorem quietAt (os : Os) : Stop.quiet Ybaf.pinned.checked.prog os := by
  intro k hk
  rw [stopKnobsAre] at hk
  cases hk

/-- What the walk is told of a slice of strings that came in. -/
def Came (w : World) (a : Option Addr) (len cap : Nat) : Prop :=
  (a = none ∧ len = 0 ∧ cap = 0) ∨ ∃ x, ∃ ss : List ByteArray, a = some x ∧ len ≤ ss.length ∧ len ≤ maxLen ∧ ∀ i, i < ss.length → w.cell? (x.add i) = some (.string (ss.getD i ByteArray.empty))

theorem lt_of_cell {w : World} {a : Addr} {v : Value} (h : w.cell? a = some v) : a.block < w.heap.size := by
  rcases Nat.lt_or_ge a.block w.heap.size with h' | h'
  · exact h'
  · simp [World.cell?, Array.getElem?_eq_none h'] at h

theorem Came.srow {w : World} {a : Option Addr} {len cap : Nat} (h : Came w a len cap) : ∃ ss : List ByteArray, len = ss.length ∧ SRow w.heap.size w a ss ∧ (a = none → ss = [] ∧ cap = 0) := by
  rcases h with ⟨rfl, rfl, rfl⟩ | ⟨x, ss, rfl, hl, _, hc⟩
  · exact ⟨[], rfl, .inl rfl, fun _ => ⟨rfl, rfl⟩⟩
  · refine ⟨ss.take len, by simp; omega, ?_, fun h => by cases h⟩
    by_cases h0 : len = 0
    · left; subst h0; simp
    · right
      have c0 := hc 0 (by omega)
      obtain ⟨b, off, spot⟩ := x
      have hspot : spot = none := by simpa [Addr.add] using World.cell?_spot c0
      subst hspot
      refine ⟨b, off, rfl, by simpa [Addr.add] using lt_of_cell c0, fun i hi => ?_⟩
      have hi' : i < ss.length := by simp at hi; omega
      have := hc i hi'
      rw [Go.WideShapes.add_plain] at this
      rw [this]
      simp [List.getElem_take, List.getD, hi']

set_option maxRecDepth 20000 in
set_option maxHeartbeats 400000 in
theorem law_long0 (len0 len1 cap0 cap1 : Nat) (a0 a1 : Option Addr) (w : World) (h0 : 1024 < len0) (hm : len0 ≤ maxLen) :
    Calls Ybaf.prog 3 #[.slice a0 len0 cap0, .slice a1 len1 cap1] w fun e w' => e = .returned (.bool true) ∧ Below w.heap.size w w' := by
  unfold maxLen at hm
  go_enter Ybaf.func3, Ybaf.ntmps3
  go_wp2
  go_ret
  exact ⟨rfl, Below.refl _ _⟩

set_option maxRecDepth 20000 in
set_option maxHeartbeats 400000 in
theorem law_long1 (len0 len1 cap0 cap1 : Nat) (a0 a1 : Option Addr) (w : World) (h0 : len0 ≤ 1024) (h1 : 1024 < len1) (hm : len1 ≤ maxLen) :
    Calls Ybaf.prog 3 #[.slice a0 len0 cap0, .slice a1 len1 cap1] w fun e w' => e = .returned (.bool true) ∧ Below w.heap.size w w' := by
  unfold maxLen at hm
  go_enter Ybaf.func3, Ybaf.ntmps3
  go_wp2
  go_ret
  exact ⟨rfl, Below.refl _ _⟩

theorem Came.le {w : World} {a : Option Addr} {len cap : Nat} (h : Came w a len cap) : len ≤ maxLen := by
  rcases h with ⟨_, rfl, _⟩ | ⟨_, _, _, _, h, _⟩
  · exact Nat.zero_le _
  · exact h

theorem law_any (F : Interp) (a0 a1 : Option Addr) (len0 cap0 len1 cap1 : Nat) (w : World) (hF : F.answers w.tape) (h0 : Came w a0 len0 cap0) (h1 : Came w a1 len1 cap1) :
    Calls Ybaf.prog 3 #[.slice a0 len0 cap0, .slice a1 len1 cap1] w fun e w' => e = .returned (.bool true) ∧ Below w.heap.size w w' := by
  by_cases hl0 : 1024 < len0
  · exact law_long0 len0 len1 cap0 cap1 a0 a1 w hl0 h0.le
  by_cases hl1 : 1024 < len1
  · exact law_long1 len0 len1 cap0 cap1 a0 a1 w (by omega) hl1 h1.le
  obtain ⟨cs, rfl, hr0, _⟩ := h0.srow
  obtain ⟨ns, rfl, hr1, hn1⟩ := h1.srow
  exact law_main F cs ns a0 a1 cap0 cap1 w hF (by omega) (by omega) hr0 hr1 hn1

theorem opened {H : Type} {enc : TypeId × Value → H} {W : World} {t fuel : Nat} {a : Option Addr} {len cap : Nat} {x : DataW H × List MemPlace} (ht : Ybaf.prog.underlying t = some (.slice 9))
    (hf : DataW.trod enc Ybaf.prog W 0 (fun _ => true) true fuel t (Value.slice a len cap).cells.toList = some x) : Came W a len cap := by
  rcases open_strings ht Ybaf.underlying9 (by kernel_rfl) hf with ⟨hcs, _⟩ | ⟨y, l, c, ss, hcs, _, hl, hm, hz, _, hcell, _⟩
  · simp [Value.cells] at hcs
    exact .inl hcs
  · simp [Value.cells] at hcs
    obtain ⟨rfl, rfl, rfl⟩ := hcs
    simp at hz
    exact .inr ⟨y, ss, rfl, by omega, by omega, hcell⟩

set_option maxRecDepth 100000 in
theorem lifted (os : Os) (started : os.Started) (H : Type) (enc : TypeId × Value → H) :
    ReturnsInTold none {} Ybaf.checked os 3 .any Input.okWide ((OpenSpec.ofChange Rows.lawS5950AWholeSpec).preRow enc Ybaf.prog Ybaf.f3 [] false []) (fun F => ((OpenSpec.ofChange Rows.lawS5950AWholeSpec).at F).post enc Ybaf.prog Ybaf.f3 false true false false) (aloneAtReturn Ybaf.prog) nothingAlways := by
  refine returnsInTold_of_row (C := Ybaf.checked) (s := OpenSpec.ofChange Rows.lawS5950AWholeSpec) (by kernel_rfl) own started (by kernel_rfl) Ybaf.func3
    (OpenSpec.witness_stopped (enc := enc) (C := Ybaf.checked) false ⟨#[], #[.slice none 0 0, .slice none 0 0], []⟩ 8 (by kernel_rfl) (by kernel_rfl) (by kernel_rfl) (by kernel_rfl)) ?_
  intro F W base args ds gs before _ hF hval0 hW _ _ _ _ _
  have hval : ∀ (j : Nat) t v, Ybaf.f3.params[j]? = some t → args[j]? = some v → Value.okWide Ybaf.prog W .any base t v := hval0
  have hW' := hW
  obtain ⟨p, q, hA0, hV, rfl, hfz, hnd⟩ := hW
  have hA : DataW.TrodAll enc Ybaf.prog W 0 (fun _ => true) true Ybaf.f3.params.toList args.toList ds p := hA0
  rw [Ybaf.params3] at hA hval
  obtain ⟨v0, v1, d0, d1, p0, p1, rfl, rfl, rfl, h0, h1⟩ := trodAll_two hA
  obtain ⟨rfl, rfl⟩ := trodVars_none hV
  obtain ⟨a0, len0, cap0, rfl⟩ := okWide_slice Ybaf.underlying22 (hval 0 22 v0 rfl rfl)
  obtain ⟨a1, len1, cap1, rfl⟩ := okWide_slice Ybaf.underlying22 (hval 1 22 v1 rfl rfl)
  have k0 := h0
  have k1 := h1
  have lt0 : ∀ x ∈ p0, x.block < W.heap.size := by obtain ⟨m, hm⟩ := k0; exact DataW.trod_lt m _ _ _ hm
  have lt1 : ∀ x ∈ p1, x.block < W.heap.size := by obtain ⟨m, hm⟩ := k1; exact DataW.trod_lt m _ _ _ hm
  have c0 : Came W a0 len0 cap0 := by obtain ⟨fuel, hf⟩ := h0; exact opened Ybaf.underlying22 hf
  have c1 : Came W a1 len1 cap1 := by obtain ⟨fuel, hf⟩ := h1; exact opened Ybaf.underlying22 hf
  clear hA0 hval0
  refine (law_any F.told a0 a1 len0 cap0 len1 cap1 W hF c0 c1).mono fun e W' ⟨he, bel⟩ => ?_
  subst he
  refine ⟨_, rfl, _, _, _, [], p0 ++ p1, [], hW', ?_, ?_, rfl, bel.frame _, fun h => by cases h⟩
  · exact trodAll_mk1 (shut_bool Ybaf.underlying4 _)
  · exact trodAll_mk2 (Below.trod laidOut (by kernel_rfl) (of_decide_eq_true (by kernel_rfl)) k0 bel lt0) (Below.trod laidOut (by kernel_rfl) (of_decide_eq_true (by kernel_rfl)) k1 bel lt1)

theorem proved : Rows.LawS5950AWholeToldSaid :=
  Claim7.holds_of_told_any 3 Ybaf.f3 "fmt.Sprintf" [] [] _ _ _ (by kernel_rfl) rfl rfl rfl laidOut (by kernel_rfl) rfl ⟨rfl, rfl, rfl, rfl, rfl, rfl, rfl⟩ rfl rfl (by kernel_rfl) (by kernel_rfl) Ybaf.func3 (by kernel_rfl)
    (of_decide_eq_true (by kernel_rfl)) (of_decide_eq_true (by kernel_rfl)) stopsAre.symm rfl stopKnobsAre.symm (by kernel_rfl)
    (by kernel_rfl) (by kernel_rfl) (by kernel_rfl) (by kernel_rfl) (by kernel_rfl) (by kernel_rfl) (by kernel_rfl) (by kernel_rfl) (by kernel_rfl) rfl (by kernel_rfl) rfl rfl
    rfl rfl
    rfl (by kernel_rfl) (by kernel_rfl) (by kernel_rfl) (by decide) (by kernel_rfl)
    (OpenClaim.moreEntering_of (by kernel_rfl) (by kernel_rfl) (by kernel_rfl) (by kernel_rfl) (by kernel_rfl) (by kernel_rfl) (by kernel_rfl) (by kernel_rfl) (by kernel_rfl) (by kernel_rfl))
    ⟨_, WideRow.started_initial, quietAt _⟩
    (fun os started _ H enc _ => lifted os started H enc)

end Go.Proofs.YbulkdsewFmt
