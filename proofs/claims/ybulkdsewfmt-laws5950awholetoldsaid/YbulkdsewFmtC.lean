/-
  The contract of WrongClasses.
-/
import Derived.Test.YbulkdsewFmtB
namespace Go.Proofs.YbulkdsewFmt
open Go.RowKit Go.Extern.Stop Go.Stop Go.Extern
attribute [local go_sem] Ybaf.call6 Ybaf.guard Ybaf.fmt0 Ybaf.fmt0r Ybaf.fmt1 Ybaf.fmt1r Ybaf.op9_113

theorem Ybaf.info9 : (Ybaf.prog.info? 9).map (fun i => (i.zero, i.size, i.bytes)) = some (some (.string ⟨#[]⟩), 1, 16) := by kernel_rfl

def has (ns : List ByteArray) (c : ByteArray) : Bool := ns.any fun n => n.toList == c.toList
theorem has_iff {ns : List ByteArray} {c : ByteArray} : has ns c = true ↔ c ∈ ns := by
  unfold has
  rw [List.any_eq_true]
  constructor
  · rintro ⟨x, hx, he⟩; rw [← str_eq he]; exact hx
  · intro h; exact ⟨c, h, by simp⟩
/-- How many of 'cs' are not among 'ns'. -/
def lack (ns cs : List ByteArray) : Nat := cs.countP fun c => !has ns c
theorem has_false {ns : List ByteArray} {c : ByteArray} (hm : c ∉ ns) : has ns c = false := by
  cases hh : has ns c
  · rfl
  · exact absurd (has_iff.1 hh) hm
theorem lack_in (ns cs : List ByteArray) (k : Nat) (h : k < cs.length) (hm : cs[k] ∈ ns) : lack ns (cs.take (k + 1)) = lack ns (cs.take k) := by
  unfold lack
  rw [List.take_succ_eq_append_getElem h, List.countP_append]
  simp [has_iff.2 hm]
theorem lack_out (ns cs : List ByteArray) (k : Nat) (h : k < cs.length) (hm : cs[k] ∉ ns) : lack ns (cs.take (k + 1)) = lack ns (cs.take k) + 1 := by
  unfold lack
  rw [List.take_succ_eq_append_getElem h, List.countP_append]
  simp [has_false hm]
theorem contains_yes (B : Nat) (ss : List ByteArray) (x : ByteArray) (a : Option Addr) (cap : Nat) (w : World) (hl : ss.length ≤ 1024) (hr : SRow B w a ss) (h : x ∈ ss) :
    Calls Ybaf.prog 5 #[.slice a ss.length cap, .string x] w fun e w' => e = .returned (.bool true) ∧ w' = w := by
  refine (contains_any B ss x a cap w hl hr).mono ?_
  rintro e w' ⟨⟨r, rfl, hq⟩, rfl⟩
  exact ⟨by rw [hq.2 h], rfl⟩
theorem contains_no (B : Nat) (ss : List ByteArray) (x : ByteArray) (a : Option Addr) (cap : Nat) (w : World) (hl : ss.length ≤ 1024) (hr : SRow B w a ss) (h : x ∉ ss) :
    Calls Ybaf.prog 5 #[.slice a ss.length cap, .string x] w fun e w' => e = .returned (.bool false) ∧ w' = w := by
  refine (contains_any B ss x a cap w hl hr).mono ?_
  rintro e w' ⟨⟨r, rfl, hq⟩, rfl⟩
  refine ⟨?_, rfl⟩
  cases r
  · rfl
  · exact absurd (hq.1 rfl) h
theorem lack_le (ns cs : List ByteArray) : lack ns cs ≤ cs.length := List.countP_le_length

abbrev txtA (F : Interp) (nm : ByteArray) : ByteArray := FmtStop.textOf (F "fmt.Sprintf" [[116, 104, 101, 32, 112, 114, 111, 102, 105, 108, 101, 39, 115, 32, 99, 108, 97, 115, 115, 32, 37, 113, 32, 105, 115, 32, 109, 105, 115, 115, 105, 110, 103], Ybaf.shape9, FmtStop.pack nm.data.toList] 0)
abbrev txtB (F : Interp) (nm : ByteArray) : ByteArray := FmtStop.textOf (F "fmt.Sprintf" [[37, 113, 32, 105, 115, 32, 110, 111, 116, 32, 97, 32, 99, 108, 97, 115, 115, 32, 111, 102, 32, 116, 104, 101, 32, 112, 114, 111, 102, 105, 108, 101], Ybaf.shape9, FmtStop.pack nm.data.toList] 0)

/-- What has been gathered: a slice of the call's own of n strings, nil where n is 0. -/
def Got (B : Nat) (w : World) (v : Value) (n : Nat) : Prop :=
  ∃ xs, w.ownsRow B 9 1 v n xs ∧ (n = 0 → v = .slice none 0 0)

theorem Got.below {B : Nat} {w w' : World} {v : Value} {n : Nat} (h : Got B w v n) (hb : Below w.heap.size w w') : Got B w' v n := by
  obtain ⟨xs, ho, hn⟩ := h
  exact ⟨xs, ho.kept (row := none) ⟨hb.os, hb.tape, hb.output, hb.size, fun k hk _ => hb.block k hk⟩ (by cases h : v.ownBlock <;> simp), hn⟩

theorem news_one {w : World} {v : Value} {e n : Nat} (hn : n = w.heap.size) : ∀ j u, [v][j]? = some u → (w.alloc (.cells #[v] e)).drew.cell? ((⟨n, 0, none⟩ : Addr).add j) = some u := by
  intro j u hj
  subst hn
  match j, hj with
  | 0, hj => simp at hj; subst hj; simp [Addr.add]

theorem got_more {B : Nat} {w wr w1 : World} {v v' : Value} {n : Nat} {xs ys : List Value} {o1 o2 o3 : Obj} (hb : Below B w wr) (hB : B ≤ w.heap.size) (hown : wr.ownsRow B 9 1 v n xs) (hown' : w1.ownsRow B 9 1 v' (n + 1) ys)
    (hg : (((wr.alloc o1).alloc o2).alloc o3).drew.grownBy w1 v.ownBlock) : Got B w1 v' (n + 1) ∧ Below B w w1 := by
  have hs := hb.size
  refine ⟨⟨_, hown', fun h => by omega⟩, ?_⟩
  refine (((((hb.alloc (by omega) o1).alloc (by simp; omega) o2).alloc (by simp; omega) o3)).drew).grown hg (by simp; omega) fun k hk => ?_
  exact (hown.lt k hk).1

theorem got_more2 {B : Nat} {w wr w1 : World} {v v' : Value} {n : Nat} {xs ys : List Value} {o1 o2 : Obj} (hb : Below B w wr) (hB : B ≤ w.heap.size) (hown : wr.ownsRow B 9 1 v n xs) (hown' : w1.ownsRow B 9 1 v' (n + 1) ys)
    (hg : ((wr.alloc o1).alloc o2).drew.grownBy w1 v.ownBlock) : Got B w1 v' (n + 1) ∧ Below B w w1 := by
  have hs := hb.size
  refine ⟨⟨_, hown', fun h => by omega⟩, ?_⟩
  refine ((((hb.alloc (by omega) o1).alloc (by simp; omega) o2)).drew).grown hg (by simp; omega) fun k hk => ?_
  exact (hown.lt k hk).1

set_option maxHeartbeats 1000000 in
theorem wrong_any (F : Interp) (cs ns : List ByteArray) (pb : Nat) (a a1 : Option Addr) (cap cap1 : Nat) (w : World) (hF : F.answers w.tape) (hl : cs.length ≤ 1024) (hl1 : ns.length ≤ 1024)
    (hr : CRow w.heap.size w a cs) (hr1 : SRow w.heap.size w a1 ns) (hpb : pb < w.heap.size) (hp : w.cell? ⟨pb, 15, none⟩ = some (.slice a cs.length cap)) :
    Calls Ybaf.prog 4 #[.pointer (some ⟨pb, 0, none⟩), .slice a1 ns.length cap1] w fun e w' => ∃ v, e = .returned v ∧ Got w.heap.size w' v (lack ns cs + lack cs ns) ∧ Below w.heap.size w w' := by
  obtain ⟨i0, hi, hz0, hz1, hz2⟩ := info_parts Ybaf.info9
  go_enter Ybaf.func4, Ybaf.ntmps4
  go_wp2
  go_loopw [5, 15] (fun v i wr => ∃ k : Nat, k ≤ cs.length ∧ i = .int .i64 k ∧ Got w.heap.size wr v (lack ns (cs.take k)) ∧ Below w.heap.size w wr) (fun _ i _ => cs.length - (intOf i).toNat)
  case atStart => exact ⟨0, by omega, rfl, ⟨[], World.ownsRow_nil _ _ _ _, fun _ => rfl⟩, Below.refl _ _⟩
  case round =>
    obtain ⟨k, hk, rfl, hgot, hb⟩ := hrel
    by_cases hlt : k < cs.length
    · rcases hr with hr | ⟨b, off, rfl, hbb, hc⟩
      · subst hr; simp at hlt
      obtain ⟨h1, h2⟩ := hc k hlt
      have h3 : wr.cell? ⟨b, off + k * 2, none⟩ = some (.string cs[k]) := (hb.cell hbb).trans h1
      have h4 : wr.cell? ⟨b, off + k * 2 + 1, none⟩ = some (.slice none 0 0) := (hb.cell hbb).trans h2
      have hsz := hb.size
      have hF0 : F.answers wr.tape := by rw [hb.tape]; exact hF
      have hF' := answers_open hF0
      clear hF0
      clear hc h1 h2
      have hr2 : ∀ w2, Below wr.heap.size wr w2 → SRow w2.heap.size w2 a1 ns := fun w2 h => hr1.keep (hb.trans (h.mono hb.size)) (Nat.le_trans hb.size h.size)
      by_cases hm : cs[k] ∈ ns
      · have hc5 := contains_yes _ ns cs[k] a1 cap1 _ hl1 (hr2 _ ((Below.refl _ _).alloc (Nat.le_refl _) (.cells #[.string cs[k], .slice none 0 0] 38))) hm
        have HG : Hid (Got w.heap.size wr u5 (lack ns (cs.take k))) := hgot
        have HM : Hid (cs[k] ∈ ns) := hm
        clear hgot hr2 hm
        go_wp2_with (go_at_call 5; refine hc5.mono ?_; rintro e w' ⟨rfl, rfl⟩)
        go_roundw
        case rel => exact ⟨k + 1, by omega, by go_num, by rw [lack_in ns cs k hlt HM.out]; exact Got.below HG.out ((Below.refl _ _).alloc (Nat.le_refl _) _), hb.alloc hb.size _⟩
        case measure => simp [intOf]; omega
      · have hc5 := contains_no _ ns cs[k] a1 cap1 _ hl1 (hr2 _ ((Below.refl _ _).alloc (Nat.le_refl _) (.cells #[.string cs[k], .slice none 0 0] 38))) hm
        have HM : Hid (cs[k] ∉ ns) := hm
        obtain ⟨xs, hown, hnil⟩ := hgot
        have hlk := lack_le ns (cs.take k)
        have hlt2 : (cs.take k).length ≤ k := List.length_take_le _ _
        clear hr2 hm
        go_wp2_with (first | (go_at_call 5; refine hc5.mono ?_; rintro e w' ⟨rfl, rfl⟩) | (go_at_call 6; go_in) | (at_builtin; go_loud (refine wpList_append_own _ rfl _ _ 22 rfl w.heap.size 9 i0 (.string ⟨#[]⟩) 1 16 Ybaf.underlying22 hi hz0 hz1 hz2 rfl (by decide) _ _ _ rfl ((((hown.alloc _).alloc _).alloc _).drew) ⟨wr.heap.size + 1 + 1, 0, none⟩ 1 1 [.string (txtA F cs[k])] rfl rfl ?c1 ?c2 ?c3 ?c4 ?c5 ?_)))
        case c1 => exact news_one (by simp)
        case c2 => intro u hu; simp at hu; subst hu; rfl
        case c3 => unfold maxLen; omega
        case c4 => omega
        case c5 => simp; omega
        · intro v' w1 hown' hgrow _
          have R := got_more hb (Nat.le_refl _) hown hown' hgrow
          clear hown' hgrow hown
          go_wp2
          go_roundw
          case rel => exact ⟨k + 1, by omega, by go_num, by rw [lack_out ns cs k hlt HM.out]; exact R.1, R.2⟩
          case measure => simp [intOf]; omega
    · have hke : cs.take k = cs := List.take_of_length_le (by omega)
      rw [hke] at hgot
      clear hke
      go_wp2
      clear hlt hk
      go_loopw [5, 35] (fun v i wr => ∃ k : Nat, k ≤ ns.length ∧ i = .int .i64 k ∧ Got w.heap.size wr v (lack ns cs + lack cs (ns.take k)) ∧ Below w.heap.size w wr) (fun _ i _ => ns.length - (intOf i).toNat)
      case atStart => exact ⟨0, by omega, rfl, by simpa [lack] using hgot, hb⟩
      case round =>
        clear hgot hb
        obtain ⟨k, hk, rfl, hgot, hb⟩ := hrel
        by_cases hlt : k < ns.length
        · rcases hr1 with hr1 | ⟨b, off, rfl, hbb, hc⟩
          · subst hr1; simp at hlt
          have h3 := (hb.cell hbb).trans (hc k hlt)
          have hsz := hb.size
          clear hc
          have hpw : wr.cell? ⟨pb, 15, none⟩ = some (.slice a cs.length cap) := (hb.cell hpb).trans hp
          have hc7 := classIndex_any cs pb ns[k] a cap wr hl (hr.keep hb hsz) (by omega) hpw
          by_cases hm : ns[k] ∈ cs
          · have HG : Hid (Got w.heap.size wr u5 (lack ns cs + lack cs (ns.take k))) := hgot
            have HM : Hid (ns[k] ∈ cs) := hm
            clear hgot
            go_wp2_with (go_at_call 7; refine hc7.mono ?_; rintro e w' ⟨⟨n, rfl, hn⟩, hbw⟩; have hn0 : 0 ≤ n := hn.2 hm; clear hn)
            go_roundw
            case rel => exact ⟨k + 1, by omega, by go_num, by rw [lack_in cs ns k hlt HM.out]; exact Got.below HG.out (by assumption), hb.trans (Below.mono (by assumption) hsz)⟩
            case measure => simp [intOf]; omega
          · have HM : Hid (ns[k] ∉ cs) := hm
            have hlk := lack_le cs (ns.take k)
            have hlk2 := lack_le ns cs
            have hlt2 : (ns.take k).length ≤ k := List.length_take_le _ _
            go_wp2_with fail
            refine hc7.mono ?_
            rintro e w2 ⟨⟨n, rfl, hn⟩, hbw⟩
            have hn0 : n < 0 := by
              rcases Int.lt_or_le n 0 with h | h
              · exact h
              · exact absurd (hn.1 h) hm
            have hb2 : Below w.heap.size w w2 := hb.trans (hbw.mono hsz)
            obtain ⟨xs, hown, hnil⟩ := hgot.below hbw
            have hF0 : F.answers w2.tape := by rw [hb2.tape]; exact hF
            have hF' := answers_open hF0
            clear hF0
            have hsz2 := hb2.size
            clear hn hbw hb hc7 hpw h3 hm hgot hr hp
            go_wp2_with (first | (go_at_call 6; go_in) | (at_builtin; refine wpList_append_own _ rfl _ _ 22 rfl w.heap.size 9 i0 (.string ⟨#[]⟩) 1 16 Ybaf.underlying22 hi hz0 hz1 hz2 rfl (by decide) _ _ _ rfl (((hown.alloc _).alloc _).drew) ⟨w2.heap.size + 1, 0, none⟩ 1 1 [.string (txtB F ns[k])] rfl rfl ?c1b ?c2b ?c3b ?c4b ?c5b ?_))
            case c1b => exact news_one (by simp)
            case c2b => intro u hu; simp at hu; subst hu; rfl
            case c3b => unfold maxLen; omega
            case c4b => omega
            case c5b => simp; omega
            · intro v' w1 hown' hgrow _
              have R := got_more2 hb2 (Nat.le_refl _) hown hown' hgrow
              clear hown' hgrow hown
              go_wp2
              go_roundw
              case rel => exact ⟨k + 1, by omega, by go_num, by rw [lack_out cs ns k hlt HM.out, ← Nat.add_assoc]; exact R.1, R.2⟩
              case measure => simp [intOf]; omega
        · have hke : ns.take k = ns := List.take_of_length_le (by omega)
          rw [hke] at hgot
          go_wp2
          go_ret
          exact ⟨_, rfl, hgot, hb⟩

end Go.Proofs.YbulkdsewFmt
