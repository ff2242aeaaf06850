/-
  A slice of columns, 23 cells each: what lies where. No Go in sight.
-/
import Derived.Test.Qxb6615940aPlainCol
import Derived.Deep.MidRow
import Derived.Lib.Builder
namespace Go.Proofs.Qxb6615940a
open Go.RowKit

/-- The cells of a column behind its name and type. -/
def zrest : List Value := [.bool false, .string ⟨#[]⟩, .string ⟨#[]⟩, .slice none 0 0, .slice none 0 0, .string ⟨#[]⟩, .string ⟨#[]⟩, .slice none 0 0, .slice none 0 0, .string ⟨#[]⟩,
      .string ⟨#[]⟩, .string ⟨#[]⟩, .int .i64 0, .int .i64 0, .int .i64 0, .int .i64 0, .int .i64 0, .bool false, .string ⟨#[]⟩, .string ⟨#[]⟩, .string ⟨#[]⟩]
def colCells (c : ByteArray × ByteArray) : List Value := .string c.1 :: .string c.2 :: zrest
theorem colCells_len (c : ByteArray × ByteArray) : (colCells c).length = 23 := rfl

theorem Try.info42 : (Try.prog.info? 42).map (fun i => (i.zero, i.size, i.bytes)) = some (some (.agg (colCells (⟨#[]⟩, ⟨#[]⟩)).toArray), 23, 344) := by kernel_rfl

/-- The list xs holds n columns: column i is f i. -/
def Content (n : Nat) (f : Nat → ByteArray × ByteArray) (xs : List Value) : Prop := ∀ i, i < n → ∀ (j : Nat) (x : Value), (colCells (f i))[j]? = some x → xs[i * 23 + j]? = some x

theorem Content.made (n : Nat) : Content n (fun _ => (⟨#[]⟩, ⟨#[]⟩)) (madeCells (colCells (⟨#[]⟩, ⟨#[]⟩)).toArray (n * 23)).toList := by
  intro i hi j x hx
  have hj : j < 23 := (List.getElem?_eq_some_iff.1 hx).1
  have e : (i * 23 + j) % 23 = j := by omega
  have hs : (colCells ((⟨#[]⟩ : ByteArray), (⟨#[]⟩ : ByteArray))).length = 23 := rfl
  have hlt : i * 23 + j < n * 23 := by
    have : i * 23 + 23 ≤ n * 23 := by omega
    omega
  simp only [madeCells, Array.toList_map, Array.toList_range, List.getElem?_map, List.getElem?_range hlt, List.size_toArray, hs, e, Option.map_some]
  rw [Array.getElem!_eq_getD, Array.getD_eq_getD_getElem?, List.getElem?_toArray, hx]
  rfl

theorem Content.put {n : Nat} {f : Nat → ByteArray × ByteArray} {xs : List Value} (h : Content n f xs) (hl : xs.length = n * 23) {k : Nat} (hk : k < n) (s t : ByteArray) :
    Content n (fun i => if i = k then (s, t) else f i) ((xs.set (k * 23) (.string s)).set (k * 23 + 1) (.string t)) := by
  intro i hi j x hx
  have hkl : k * 23 + 1 < xs.length := by rw [hl]; omega
  by_cases e : i = k
  · subst e
    simp only [if_pos] at hx
    match j, hx with
    | 0, hx =>
      simp only [colCells, List.getElem?_cons_zero, Option.some.injEq] at hx
      subst hx
      show ((xs.set (i * 23) (.string s)).set (i * 23 + 1) (.string t))[i * 23]? = _
      rw [List.getElem?_set_ne (by omega), List.getElem?_set_self (by omega)]
    | 1, hx =>
      simp only [colCells, List.getElem?_cons_succ, List.getElem?_cons_zero, Option.some.injEq] at hx
      subst hx
      rw [List.getElem?_set_self (by rw [List.length_set]; omega)]
    | j + 2, hx =>
      rw [List.getElem?_set_ne (by omega), List.getElem?_set_ne (by omega)]
      exact h i hi (j + 2) x hx
  · simp only [if_neg e] at hx
    have hj : j < 23 := (List.getElem?_eq_some_iff.1 hx).1
    rw [List.getElem?_set_ne (by omega), List.getElem?_set_ne (by omega)]
    exact h i hi j x hx

/-- A slice of columns that can be read. -/
def TabRow (w : World) (a : Option Addr) (len : Nat) (cs : List (ByteArray × ByteArray)) : Prop :=
  cs.length = len ∧ (0 < len → ∃ g, a = some ⟨g, 0, none⟩ ∧ g < w.heap.size ∧ ∀ i c, cs[i]? = some c → w.rangeAt g (i * 23) (colCells c))

theorem TabRow.of_content {w : World} {base : Nat} {v : Value} {g cap n : Nat} {xs : List Value} {cs : List (ByteArray × ByteArray)} {f : Nat → ByteArray × ByteArray}
    (hv : v = .slice (some ⟨g, 0, none⟩) n cap) (ho : w.ownsRow base 42 23 v n xs) (hc : Content n f xs) (hl : cs.length = n) (hf : ∀ i c, cs[i]? = some c → f i = c) : TabRow w (some ⟨g, 0, none⟩) n cs := by
  subst hv
  refine ⟨hl, fun _ => ⟨g, rfl, (ho.lt g rfl).2, fun i c hi j x hx => ?_⟩⟩
  have hin : i < n := by have := (List.getElem?_eq_some_iff.1 hi).1; omega
  have hj : j < 23 := (List.getElem?_eq_some_iff.1 hx).1
  rw [ho.cellAt (i * 23 + j) (by have : i * 23 + 23 ≤ n * 23 := by omega
                                 omega)]
  exact hc i hin j x (by rw [hf i c hi]; exact hx)

theorem TabRow.below {B : Nat} {w w' : World} {a : Option Addr} {len : Nat} {cs : List (ByteArray × ByteArray)} (h : TabRow w a len cs) (hb : Below B w w') (hB : w.heap.size ≤ B) : TabRow w' a len cs := by
  obtain ⟨hl, h⟩ := h
  refine ⟨hl, fun h0 => ?_⟩
  obtain ⟨g, ha, hg, hc⟩ := h h0
  exact ⟨g, ha, Nat.lt_of_lt_of_le hg hb.size, fun i c hi j x hx => (hb.cell (by show g < B; omega)).trans (hc i c hi j x hx)⟩

end Go.Proofs.Qxb6615940a
