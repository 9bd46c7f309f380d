/-
  LawS5952AWhole: the law's walk.
-/
import Derived.Test.YbulkdsfyB
import Derived.LaidEql
namespace Go.Proofs.Ybulkdsfy
open Go.RowKit

theorem Yba.info27 : (Yba.prog.info? 27).map (fun i => (i.zero, i.size, i.bytes)) = some (some (.pointer none), 1, 8) := by kernel_rfl

/-- The data's cells, five an element, in blocks below N. -/
def QRow (N : Nat) (w : World) (a : Option Addr) (qs : List Q) : Prop :=
  qs = [] ∨ ∃ b off, a = some ⟨b, off, none⟩ ∧ b < N ∧ ∀ i, (h : i < qs.length) → w.cell? ⟨b, off + i * 5, none⟩ = some (.int .u64 qs[i].seq) ∧ w.cell? ⟨b, off + i * 5 + 1, none⟩ = some (.int .i64 qs[i].sender) ∧
    w.cell? ⟨b, off + i * 5 + 2, none⟩ = some (.int .u64 qs[i].ss) ∧ w.cell? ⟨b, off + i * 5 + 3, none⟩ = some (.int .u64 qs[i].sentIn) ∧ w.cell? ⟨b, off + i * 5 + 4, none⟩ = some (.int .i64 qs[i].size)

theorem PartAt.keep {w w' : World} {g : Nat} {q : Q} (h : PartAt w g q) (hc : ∀ o, w'.cell? ⟨g, o, none⟩ = w.cell? ⟨g, o, none⟩) (hs : w.heap.size ≤ w'.heap.size) : PartAt w' g q := by
  obtain ⟨hg, h0, h1, h2, h3, h4, h5, h6, h7, h8, h9⟩ := h
  refine ⟨by omega, ?_, ?_, ?_, ?_, ?_, ?_, ?_, ?_, ?_, ?_⟩ <;> rw [hc] <;> assumption
theorem PartAt.new (w : World) (q : Q) : PartAt (w.alloc (.cells #[.int .u64 q.seq, .int .i64 q.sender, .int .u64 q.ss, .slice none 0 0, .pointer none, .int .u64 q.sentIn, .int .i64 q.size, .int .u32 0, .int .i64 0, .int .u32 0] 35)) w.heap.size q := by
  refine ⟨by simp, ?_, ?_, ?_, ?_, ?_, ?_, ?_, ?_, ?_, ?_⟩ <;> simp

/-- k of the parts are laid. -/
def LInv (B : Nat) (qs : List Q) (k : Nat) (g : Nat → Nat) (wr : World) : Prop :=
  B < wr.heap.size ∧ (∀ i, (h : i < qs.length) → i < k → wr.cell? ⟨B, i, none⟩ = some (.pointer (some ⟨g i, 0, none⟩)) ∧ B < g i ∧ PartAt wr (g i) qs[i]) ∧
  (∀ i, k ≤ i → i < qs.length → wr.cell? ⟨B, i, none⟩ = some (.pointer none)) ∧ ∀ i, wr.frozen? ⟨B, i, none⟩ = false

theorem LInv.start {B N : Nat} {qs : List Q} {w : World} (h : w.ownsRow N 27 1 (.slice (some ⟨B, 0, none⟩) qs.length qs.length) qs.length (madeCells (Value.pointer none).cells (qs.length * 1)).toList) : LInv B qs 0 (fun _ => 0) w := by
  have hlt := (h.lt B rfl).2
  have hcs := fun j u hu => h.cells (g := B) rfl j u hu
  rw [show (Value.pointer none).cells = #[.pointer none] from rfl, toList_madeCells_one] at hcs
  refine ⟨hlt, fun i _ h => by omega, fun i _ hi => ?_, fun i => ?_⟩
  · have := hcs i (.pointer none) (by rw [List.getElem?_replicate, if_pos (by omega)])
    rwa [show (⟨B, 0, none⟩ : Addr).add i = ⟨B, i, none⟩ by unfold Addr.add; split <;> simp_all] at this
  · obtain ⟨_, ⟨h, _⟩ | ⟨g', cp, cur, e1, _, e3, _⟩⟩ := h
    · cases h
    · injection e1 with e1 _ _
      simp at e1
      subst e1
      simp [World.frozen?, e3]

theorem LInv.step {B : Nat} {qs : List Q} {k : Nat} {g : Nat → Nat} {wr : World} (h : LInv B qs k g wr) (hlt : k < qs.length) :
    ∃ g', LInv B qs (k + 1) g' (((wr.setCell ⟨B, k, none⟩ (.pointer (some ⟨wr.heap.size + 1, 0, none⟩))).alloc (.cells #[.int .u64 qs[k].seq, .int .i64 qs[k].sender, .int .u64 qs[k].ss, .int .u64 qs[k].sentIn, .int .i64 qs[k].size] 26)).alloc
      (.cells #[.int .u64 qs[k].seq, .int .i64 qs[k].sender, .int .u64 qs[k].ss, .slice none 0 0, .pointer none, .int .u64 qs[k].sentIn, .int .i64 qs[k].size, .int .u32 0, .int .i64 0, .int .u32 0] 35)) := by
  obtain ⟨hB, hp, hn, hf⟩ := h
  refine ⟨fun i => if i = k then wr.heap.size + 1 else g i, by simp; omega, fun i h hi => ?_, fun i h1 h2 => ?_, fun i => ?_⟩
  · by_cases hik : i = k
    · subst hik
      refine ⟨?_, by simp; omega, ?_⟩
      · rw [World.cell?_alloc_past _ _ _ (by simp; omega), World.cell?_alloc_past _ _ _ (by simp; omega)]
        simp only [if_true]
        exact World.cell?_setCell_same _ _ _ (hn i (Nat.le_refl _) h)
      · simp only [if_true]
        have := PartAt.new ((wr.setCell ⟨B, i, none⟩ (.pointer (some ⟨wr.heap.size + 1, 0, none⟩))).alloc (.cells #[.int .u64 qs[i].seq, .int .i64 qs[i].sender, .int .u64 qs[i].ss, .int .u64 qs[i].sentIn, .int .i64 qs[i].size] 26)) qs[i]
        simpa using this
    · obtain ⟨c1, c2, c3⟩ := hp i h (by omega)
      have hgi := c3.1
      simp only [if_neg hik]
      refine ⟨?_, c2, c3.keep (fun o => ?_) (by simp; omega)⟩
      · rw [World.cell?_alloc_past _ _ _ (by simp; omega), World.cell?_alloc_past _ _ _ (by simp; omega), World.cell?_setCell_other _ _ _ _ (by simp <;> omega)]
        exact c1
      · rw [World.cell?_alloc_past _ _ _ (by simp; omega), World.cell?_alloc_past _ _ _ (by simp; omega), World.cell?_setCell_other _ _ _ _ (by simp <;> omega)]
  · rw [World.cell?_alloc_past _ _ _ (by simp; omega), World.cell?_alloc_past _ _ _ (by simp; omega), World.cell?_setCell_other _ _ _ _ (by simp <;> omega)]
    exact hn i (by omega) h2
  · rw [World.frozen?_alloc_past _ _ _ (by simp; omega), World.frozen?_alloc_past _ _ _ (by simp; omega), World.frozen?_setCell]
    exact hf i
theorem LInv.parts {B : Nat} {qs : List Q} {g : Nat → Nat} {wr : World} (h : LInv B qs qs.length g wr) : Parts wr B g qs :=
  ⟨h.1, fun i hi => ⟨(h.2.1 i hi hi).1, (h.2.1 i hi hi).2.2⟩⟩
theorem Parts.keep {B : Nat} {qs : List Q} {g : Nat → Nat} {w w' : World} (h : Parts w B g qs) (hb : Below w.heap.size w w') : Parts w' B g qs :=
  ⟨Nat.lt_of_lt_of_le h.1 hb.size, fun i hi => ⟨(hb.cell h.1).trans (h.2 i hi).1, (h.2 i hi).2.keep (fun _ => hb.cell (h.2 i hi).2.1) hb.size⟩⟩
theorem QRow.at {N : Nat} {w w' : World} {a : Option Addr} {qs : List Q} (h : QRow N w a qs) (hb : Below N w w') (i : Nat) (hi : i < qs.length) : ∃ b off, a = some ⟨b, off, none⟩ ∧ b < N ∧ w'.cell? ⟨b, off + i * 5, none⟩ = some (.int .u64 qs[i].seq) ∧ w'.cell? ⟨b, off + i * 5 + 1, none⟩ = some (.int .i64 qs[i].sender) ∧
    w'.cell? ⟨b, off + i * 5 + 2, none⟩ = some (.int .u64 qs[i].ss) ∧ w'.cell? ⟨b, off + i * 5 + 3, none⟩ = some (.int .u64 qs[i].sentIn) ∧ w'.cell? ⟨b, off + i * 5 + 4, none⟩ = some (.int .i64 qs[i].size) := by
  rcases h with h | ⟨b, off, ha, hlt, hc⟩
  · subst h; simp at hi
  · obtain ⟨c0, c1, c2, c3, c4⟩ := hc i hi
    exact ⟨b, off, ha, hlt, (hb.cell hlt).trans c0, (hb.cell hlt).trans c1, (hb.cell hlt).trans c2, (hb.cell hlt).trans c3, (hb.cell hlt).trans c4⟩

/-- The member's cells: all at their zero values, but for the pointer to its view and its parts. -/
theorem mem_ex (vb B n : Nat) : ∃ cs : Array Value, Yba.prog.built 98 [(2, .pointer (some ⟨vb, 0, none⟩)), (55, .slice (some ⟨B, 0, none⟩) n n)] = some cs ∧ cs[7]? = some (.pointer (some ⟨vb, 0, none⟩)) ∧ cs[372]? = some (.slice (some ⟨B, 0, none⟩) n n) :=
  ⟨(Yba.prog.built 98 [(2, .pointer (some ⟨vb, 0, none⟩)), (55, .slice (some ⟨B, 0, none⟩) n n)]).getD #[], by kernel_rfl, by kernel_rfl, by kernel_rfl⟩
theorem wpList_mem {ops : Array Oper} {rest : List Oper} {o : Oper} {a : Act} {w : World} {R : Exit → Act → World → Prop} (hg : o.guard = none) (x y : Operand) (ho : o.op = .build 98 #[(2, x), (55, y)])
    (u v : Value) (cs : Array Value) (hb : Hid (Yba.prog.built 98 [(2, u), (55, v)] = some cs)) (hx : a.eval x = u) (hy : a.eval y = v)
    (h : wpList Yba.prog ops R rest (a.put o.dst (.agg cs)) w) : wpList Yba.prog ops R (o :: rest) a w := by
  subst hx hy
  refine wpList_build hg 98 _ ho ?_ ?_
  · simp [hb.out]
  · simpa [hb.out] using h

theorem equalIn_ptr (w : World) (d : Nat) (a : Addr) : (Op.equalIn (d + 1) 27 (.pointer (some a)) (.pointer (some a))).run Yba.prog w = .ok true w := by
  have h : (Yba.prog.info? 35).map (fun i => i.size) = some 10 := by kernel_rfl
  obtain ⟨i, hi, _⟩ := Option.map_eq_some_iff.1 h
  simp [Op.equalIn, run_underlying Yba.underlying27, sizeOf, typeInfo, hi, run_sameAddr_same]
theorem equal_ptr (w : World) (a : Addr) : (Op.equal 27 (.pointer (some a)) (.pointer (some a))).run Yba.prog w = .ok true w := equalIn_ptr w 9999 a
theorem Yba.ptrSame (w : World) (a : Addr) : (binOp .neq 27 (.pointer (some a)) (.pointer (some a))).run Yba.prog w = .ok (.bool false) w := by
  simp only [binOp]
  simp [equal_ptr]

end Go.Proofs.Ybulkdsfy
