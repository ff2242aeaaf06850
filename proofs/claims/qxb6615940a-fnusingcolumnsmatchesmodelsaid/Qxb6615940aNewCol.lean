/-
  A whole struct stored into the block that has just been laid for it: the block is laid with those cells. No unrolling.
-/
import Derived.Test.Qxb6615940aRows23
namespace Go.Proofs.Qxb6615940a
open Go.RowKit

theorem setCells_alloc (w : World) (t : TypeId) : ∀ (vs pre old : List Value), old.length = vs.length →
    (w.alloc (.cells (pre ++ old).toArray t)).setCells w.heap.size pre.length vs = w.alloc (.cells (pre ++ vs).toArray t)
  | [], pre, old, h => by
    have : old = [] := List.length_eq_zero_iff.1 h
    subst this
    rfl
  | v :: vs, pre, [], h => by simp at h
  | v :: vs, pre, o :: old, h => by
    have ih := setCells_alloc w t vs (pre ++ [v]) old (by simpa using h)
    have e : (w.alloc (.cells (pre ++ o :: old).toArray t)).setCell ⟨w.heap.size, pre.length, none⟩ v = w.alloc (.cells (pre ++ [v] ++ old).toArray t) := by
      rw [World.setCell_alloc_at _ _ _ _ _ rfl]
      congr 2
      simp
    show ((w.alloc (.cells (pre ++ o :: old).toArray t)).setCell ⟨w.heap.size, pre.length, none⟩ v).setCells w.heap.size (pre.length + 1) vs = _
    rw [e]
    simpa using ih

theorem there_alloc_new (w : World) (t : TypeId) (old : List Value) : (w.alloc (.cells old.toArray t)).there w.heap.size 0 old.length := by
  intro j hj
  have hb : (w.alloc (.cells old.toArray t)).heap[w.heap.size]? = some (.cells old.toArray t (0, 0)) := by
    show (w.heap.push _)[w.heap.size]? = _
    simp
  refine ⟨?_, Lib.frozen_of_heap hb _⟩
  rw [Lib.cell_of_heap hb]
  simp [hj]

/-- THE LAW: a struct's value stored into the block that was just laid. -/
theorem wpList_store_new {P : Program} {ops : Array Oper} {rest : List Oper} {op : Oper} {a : Act} {w : World} {Q : Exit → Act → World → Prop} (hgd : op.guard = none) (ty : TypeId) (x y : Operand) (ho : op.op = .store ty x y)
    (t : TypeId) (old cells : List Value) (hx : a.eval x = .pointer (some ⟨w.heap.size, 0, none⟩)) (hy : a.eval y = .agg cells.toArray)
    (hl : old.length = cells.length) (hi : (P.info? ty).map (·.size) = some cells.length) (h1 : cells.all (·.oneCell') = true)
    (h : wpList P ops Q rest (a.put op.dst undef) (w.alloc (.cells cells.toArray t))) : wpList P ops Q (op :: rest) a (w.alloc (.cells old.toArray t)) := by
  refine wpList_store_mid hgd ty x y ho w.heap.size 0 cells.toArray hx hy ?_ (by simpa using hi) (by simpa using h1) ?_
  · have := there_alloc_new w t old
    rw [hl] at this
    simpa using this
  · have := setCells_alloc w t cells [] old hl
    simp only [List.nil_append, List.length_nil] at this
    rw [this]
    exact h

end Go.Proofs.Qxb6615940a
