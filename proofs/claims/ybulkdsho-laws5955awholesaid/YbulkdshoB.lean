/-
  LawS5955AWhole: the law's walk.
-/
import Derived.Test.YbulkdshoA
namespace Go.Proofs.Ybulkdsho.Sel
open Go.RowKit

theorem eqlNil22 (w : World) (a : Option Addr) (n c : Nat) : (binOp .eql 22 (.slice a n c) (.slice none 0 0)).run Yba.prog w = .ok (.bool a.isNone) w := by
  cases a <;> kernel_rfl
theorem equalIn_same (w : World) (d : Nat) (a : Addr) : (Op.equalIn (d + 1) 30 (.pointer (some a)) (.pointer (some a))).run Yba.prog w = .ok true w := by
  have h : (Yba.prog.info? 23).map (fun i => i.size) = some 1 := by kernel_rfl
  obtain ⟨i, hi, _⟩ := Option.map_eq_some_iff.1 h
  simp [Op.equalIn, run_underlying Yba.underlying30, sizeOf, typeInfo, hi, run_sameAddr_same]
theorem equal_same (w : World) (a : Addr) : (Op.equal 30 (.pointer (some a)) (.pointer (some a))).run Yba.prog w = .ok true w := equalIn_same w 9999 a
theorem ptrSame (w : World) (a : Addr) : (binOp .neq 30 (.pointer (some a)) (.pointer (some a))).run Yba.prog w = .ok (.bool false) w := by
  simp only [binOp]
  simp [equal_same]

/-- The address of a row of the call's own is none of a cell in another block. -/
theorem sameAddr_new {w : World} {T b o : Nat} {c : Array Value} {t : TypeId} {v : Value} (hT : w.heap[T]? = some (.cells c t (0, 0))) (hb : w.cell? ⟨b, o, none⟩ = some v) (hne : T ≠ b) : (sameAddr ⟨T, 0, none⟩ ⟨b, o, none⟩).run Yba.prog w = .ok false w := by
  have hbl : ∃ cb tb fr, w.heap[b]? = some (.cells cb tb fr) ∧ cb.size ≠ 0 := by
    unfold World.cell? at hb
    split at hb
    · rename_i c' t' fr' he
      refine ⟨_, _, _, he, fun h0 => ?_⟩
      simp at hb
      obtain ⟨hlt, _⟩ := Array.getElem?_eq_some_iff.1 hb
      omega
    · cases hb
  obtain ⟨cb, tb, fr, hbb, hsz⟩ := hbl
  simp [sameAddr, hne, World.frozen?, hT, hbb, noView, viewAt, World.shape?, mayBeOne, stringish, hsz]
theorem equalIn_new {w : World} {T b o : Nat} {c : Array Value} {t : TypeId} {v : Value} (d : Nat) (hT : w.heap[T]? = some (.cells c t (0, 0))) (hb : w.cell? ⟨b, o, none⟩ = some v) (hne : T ≠ b) : (Op.equalIn (d + 1) 30 (.pointer (some ⟨T, 0, none⟩)) (.pointer (some ⟨b, o, none⟩))).run Yba.prog w = .ok false w := by
  have h : (Yba.prog.info? 23).map (fun i => i.size) = some 1 := by kernel_rfl
  obtain ⟨i, hi, hz⟩ := Option.map_eq_some_iff.1 h
  simp [Op.equalIn, run_underlying Yba.underlying30, sizeOf, typeInfo, hi, hz, sameAddr_new hT hb hne]
theorem ptrNew {w : World} {T b o : Nat} {c : Array Value} {t : TypeId} {v : Value} (hT : w.heap[T]? = some (.cells c t (0, 0))) (hb : w.cell? ⟨b, o, none⟩ = some v) (hne : T ≠ b) : (binOp .eql 30 (.pointer (some ⟨T, 0, none⟩)) (.pointer (some ⟨b, o, none⟩))).run Yba.prog w = .ok (.bool false) w := by
  have := equalIn_new 9999 hT hb hne
  have h2 : (Op.equal 30 (.pointer (some ⟨T, 0, none⟩)) (.pointer (some ⟨b, o, none⟩))).run Yba.prog w = .ok false w := this
  simp only [binOp]
  simp [h2]
end Go.Proofs.Ybulkdsho.Sel
