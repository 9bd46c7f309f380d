/-
  The contracts of slices.IndexFunc, ClassIndex and fmt.Sprintf's stop.
-/
import Derived.Test.YbulkdsewFmtA
namespace Go.Proofs.YbulkdsewFmt
open Go.RowKit Go.Extern.Stop Go.Stop Go.Extern

/-- THE SLICE OF CLASSES AT 'a' BEARS THE NAMES 'cs' (and no fees) IN THE WORLD. -/
def CRow (B : Nat) (w : World) (a : Option Addr) (cs : List ByteArray) : Prop :=
  cs = [] ∨ ∃ b off, a = some ⟨b, off, none⟩ ∧ b < B ∧ ∀ i, (h : i < cs.length) → w.cell? ⟨b, off + i * 2, none⟩ = some (.string cs[i]) ∧ w.cell? ⟨b, off + i * 2 + 1, none⟩ = some (.slice none 0 0)

set_option maxHeartbeats 400000 in
theorem indexFunc_any (cs : List ByteArray) (x : ByteArray) (a : Option Addr) (cap g : Nat) (w : World) (hl : cs.length ≤ 1024) (hr : CRow w.heap.size w a cs) (hg : g < w.heap.size) (hx : w.cell? ⟨g, 0, none⟩ = some (.string x)) :
    Calls Ybaf.prog 9 #[.slice a cs.length cap, .func (Fn.func 10) #[] #[.pointer (some ⟨g, 0, none⟩)]] w fun e w' => (∃ n : Int, e = .returned (.int .i64 n) ∧ (0 ≤ n ↔ x ∈ cs)) ∧ Below w.heap.size w w' := by
  go_enter Ybaf.func9, Ybaf.ntmps9
  go_wp2
  go_loopw [8] (fun i wr => ∃ k : Nat, k ≤ cs.length ∧ i = .int .i64 k ∧ x ∉ cs.take k ∧ Below w.heap.size w wr) (fun i _ => cs.length - (intOf i).toNat)
  case atStart => exact ⟨0, by omega, rfl, by simp, Below.refl _ _⟩
  case round =>
    obtain ⟨k, hk, rfl, hn, hb⟩ := hrel
    by_cases hlt : k < cs.length
    · rcases hr with hr | ⟨b, off, rfl, hbb, hc⟩
      · subst hr; simp at hlt
      obtain ⟨h1, h2⟩ := hc k hlt
      have h3 : wr.cell? ⟨b, off + k * 2, none⟩ = some (.string cs[k]) := (hb.cell hbb).trans h1
      have h4 : wr.cell? ⟨b, off + k * 2 + 1, none⟩ = some (.slice none 0 0) := (hb.cell hbb).trans h2
      have h5 : wr.cell? ⟨g, 0, none⟩ = some (.string x) := (hb.cell hg).trans hx
      have h6 : g < wr.heap.size := Nat.lt_of_lt_of_le hg hb.size
      clear hc h1 h2
      go_wp2_with (go_at_call 10; refine (same_any cs[k] x _ g _ h6 h5).mono ?_; rintro e w' ⟨rfl, rfl⟩)
      · go_ret
        have he : (cs[k].toList == x.toList) = true := by assumption
        exact ⟨⟨_, rfl, by rw [← str_eq he]; simp⟩, hb.alloc hb.size _⟩
      · go_roundw
        case rel =>
          have he : (cs[k].toList == x.toList) = false := by assumption
          exact ⟨k + 1, by omega, by go_num, by rw [mem_take_succ hlt]; rintro (h | h); exact hn h; exact str_ne he h.symm, hb.alloc hb.size _⟩
        case measure => simp [intOf]; omega
    · go_wp2
      go_ret
      have : cs.take k = cs := List.take_of_length_le (by omega)
      rw [this] at hn
      exact ⟨⟨_, rfl, by simp [hn]⟩, hb⟩

theorem CRow.keep {B B' : Nat} {w w' : World} {a : Option Addr} {cs : List ByteArray} (h : CRow B w a cs) (hb : Below B w w') (hB : B ≤ B') : CRow B' w' a cs := by
  rcases h with h | ⟨b, off, ha, hlt, hc⟩
  · exact .inl h
  · exact .inr ⟨b, off, ha, by omega, fun i hi => ⟨(hb.cell hlt).trans (hc i hi).1, (hb.cell hlt).trans (hc i hi).2⟩⟩
theorem SRow.keep {B B' : Nat} {w w' : World} {a : Option Addr} {cs : List ByteArray} (h : SRow B w a cs) (hb : Below B w w') (hB : B ≤ B') : SRow B' w' a cs := by
  rcases h with h | ⟨b, off, ha, hlt, hc⟩
  · exact .inl h
  · exact .inr ⟨b, off, ha, by omega, fun i hi => (hb.cell hlt).trans (hc i hi)⟩

set_option maxHeartbeats 400000 in
theorem classIndex_any (cs : List ByteArray) (pb : Nat) (x : ByteArray) (a : Option Addr) (cap : Nat) (w : World) (hl : cs.length ≤ 1024) (hr : CRow w.heap.size w a cs) (hpb : pb < w.heap.size) (hp : w.cell? ⟨pb, 15, none⟩ = some (.slice a cs.length cap)) :
    Calls Ybaf.prog 7 #[.pointer (some ⟨pb, 0, none⟩), .string x] w fun e w' => (∃ n : Int, e = .returned (.int .i64 n) ∧ (0 ≤ n ↔ x ∈ cs)) ∧ Below w.heap.size w w' := by
  have hb0 := (Below.refl w.heap.size w).alloc (Nat.le_refl _) (.cells #[.string x] 9)
  have hr' : CRow (w.alloc (.cells #[.string x] 9)).heap.size (w.alloc (.cells #[.string x] 9)) a cs := hr.keep hb0 (by simp)
  go_enter Ybaf.func7, Ybaf.ntmps7
  go_wp2_with (go_at_call 9; refine (indexFunc_any cs x a cap w.heap.size _ hl hr' (by simp) (by go_simp)).mono ?_; rintro e w' ⟨⟨n, rfl, hn⟩, hb⟩)
  go_ret
  exact ⟨⟨_, rfl, hn⟩, hb0.trans (hb.mono (by simp))⟩

end Go.Proofs.YbulkdsewFmt
