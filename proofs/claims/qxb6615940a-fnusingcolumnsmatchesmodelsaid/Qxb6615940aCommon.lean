/-
  Small laws on rows, and what is left of a body behind its first statements.
-/
import Derived.Test.Qxb6615940aZZ
import Derived.Test.Qxb6615940aMent
import Derived.Laws.CopyOwn
import Derived.Lib.BufferRead
import Derived.Laws.IdiomStrings
namespace Go.Proofs.Qxb6615940a
open Go.RowKit

/-- What is left of a body behind its first n statements. -/
def nthTail : Nat → Code → Code
  | n + 1, .seq _ b => nthTail n b
  | _, c => c

theorem ColRow.below {B : Nat} {w w' : World} {a : Option Addr} {len : Nat} {cs : List (ByteArray × ByteArray)} (h : ColRow w a len cs) (hb : Below B w w') (hB : w.heap.size ≤ B) : ColRow w' a len cs := by
  obtain ⟨hl, h⟩ := h
  refine ⟨hl, fun h0 => ?_⟩
  obtain ⟨b, off, ha, hg, hc⟩ := h h0
  exact ⟨b, off, ha, Nat.lt_of_lt_of_le hg hb.size, fun i s hi => ⟨(hb.cell (p := ⟨b, off + i * 2, none⟩) (by show b < B; omega)).trans (hc i s hi).1, (hb.cell (p := ⟨b, off + i * 2 + 1, none⟩) (by show b < B; omega)).trans (hc i s hi).2⟩⟩

theorem splice_all {L cs : List Value} (h : cs.length = L.length) : splice L 0 cs = cs := by
  unfold splice
  simp [h]

/-- The copy of the used names. -/
theorem StrRow.of_block {w : World} {g : Nat} {us : List ByteArray} {t : TypeId} (h : w.heap[g]? = some (.cells (us.map Value.string).toArray t (0, 0))) : StrRow w (some ⟨g, 0, none⟩) us.length us := by
  refine ⟨rfl, fun _ => ⟨g, 0, rfl, lt_of_block h, fun i s hi => ?_⟩⟩
  rw [Lib.cell_of_heap h]
  simp [hi]

theorem toList_len (n : ByteArray) : n.toList.length = n.size := by rw [ByteArray.toList_eq]; rfl
theorem toList_nil {n : ByteArray} (h : n.size = 0) : (n.toList == []) = true := by
  rw [beq_iff_eq]
  exact List.length_eq_zero_iff.1 (by rw [toList_len]; exact h)
theorem toList_ne {n : ByteArray} (h : 0 < n.size) : (n.toList == []) = false := by
  rw [beq_eq_false_iff_ne]
  intro hc
  have := congrArg List.length hc
  rw [toList_len, List.length_nil] at this
  omega
theorem Try.size9 : (Try.prog.info? 9).map (·.size) = some 1 := by kernel_rfl
theorem made_block {w : World} {base g n : Nat} {xs : List Value} (h : w.ownsRow base 9 1 (.slice (some ⟨g, 0, none⟩) n n) n xs) : ∃ cur : List Value, w.heap[g]? = some (.cells cur.toArray 9 (0, 0)) ∧ cur.length = n := by
  rcases h.2 with ⟨hv, _⟩ | ⟨g', cap, cur, hv, _, hh, _, _, hs, _⟩
  · cases hv
  · cases hv
    exact ⟨cur.toList, hh, by simpa using hs⟩
theorem one_cells_strings (us : List ByteArray) : ∀ v ∈ us.map Value.string, v.oneCell' = true := by
  intro v hv
  obtain ⟨s, _, rfl⟩ := List.mem_map.1 hv
  rfl

theorem conv_done {w : World} {base : Nat} {v : Value} {l : List UInt8} (h : w.ownsRow base 5 1 v l.length (Lib.byteCells l)) :
    ∃ ao cap, v = .slice ao l.length cap ∧ (convert 33 9 (.slice ao l.length cap)).run Try.prog w = .ok (.string ⟨l.toArray⟩) w := by
  have hc := fun (g : Nat) (hg : v.ownBlock = some g) => h.cells hg
  rcases h.2 with ⟨rfl, h0⟩ | ⟨g, cap, cur, rfl, _⟩
  · have : l = [] := List.length_eq_zero_iff.1 h0
    subst this
    exact ⟨none, 0, rfl, Lib.run_convert_nil_bytes w 33 9 5 0 Try.underlying33 Try.underlying5 Try.underlying9⟩
  · refine ⟨some ⟨g, 0, none⟩, cap, rfl, run_convert_bytes_back w 33 9 5 ⟨g, 0, none⟩ cap l Try.underlying33 Try.underlying5 Try.underlying9 (fun j hj => ?_)⟩
    exact hc g rfl j _ (by simp [Lib.byteCells, hj])

theorem grownBy_of_below {w w' : World} (h : Below w.heap.size w w') (r : Option Nat) : w.grownBy w' r := ⟨h.os, h.tape, h.output, h.size, fun k hk _ => h.block k hk⟩

theorem bytes_done {w : World} {base : Nat} {v : Value} {m : Nat} {cs : List (ByteArray × ByteArray)} {names : List ByteArray} {k : Nat} {s : ByteArray} (hs : names[k]? = some s)
    (h : w.ownsRow base 5 1 v m (Lib.byteCells (colsText cs (names.take k)) ++ Lib.strCells s ++ [.int .u8 0] ++ Lib.strCells (typeOf cs s) ++ [.int .u8 0])) :
    w.ownsRow base 5 1 v (Lib.byteCells (colsText cs (names.take (k + 1)))).length (Lib.byteCells (colsText cs (names.take (k + 1)))) := by
  have e : Lib.byteCells (colsText cs (names.take k)) ++ Lib.strCells s ++ [.int .u8 0] ++ Lib.strCells (typeOf cs s) ++ [.int .u8 0] = Lib.byteCells (colsText cs (names.take (k + 1))) := by
    rw [colsText_snoc hs, Lib.byteCells_append, Lib.strCells_eq, Lib.strCells_eq]
    simp [colText, Lib.byteCells]
  rw [e] at h
  have hm : m = (Lib.byteCells (colsText cs (names.take (k + 1)))).length := by have := h.1; omega
  rw [← hm]
  exact h

end Go.Proofs.Qxb6615940a
