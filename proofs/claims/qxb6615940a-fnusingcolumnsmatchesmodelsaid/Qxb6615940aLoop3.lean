/-
  The third loop of usingColumns: what a round does to the call's own memory. Outside the walk.
-/
import Derived.Test.Qxb6615940aTypes
import Derived.Test.Qxb6615940aBuilder
import Derived.Test.Qxb6615940aRows23
namespace Go.Proofs.Qxb6615940a
open Go.RowKit

def colText (cs : List (ByteArray × ByteArray)) (n : ByteArray) : List UInt8 := n.data.toList ++ [0] ++ (typeOf cs n).data.toList ++ [0]
def colsText (cs : List (ByteArray × ByteArray)) (names : List ByteArray) : List UInt8 := names.flatMap (colText cs)
def colsCells (cs : List (ByteArray × ByteArray)) (names : List ByteArray) : List Value := names.flatMap fun n => colCells (n, typeOf cs n)

theorem colsText_snoc {cs : List (ByteArray × ByteArray)} {names : List ByteArray} {k : Nat} {s : ByteArray} (h : names[k]? = some s) : colsText cs (names.take (k + 1)) = colsText cs (names.take k) ++ colText cs s := by
  rw [take_snoc h, colsText, List.flatMap_append]
  simp [colsText]
theorem colsCells_snoc {cs : List (ByteArray × ByteArray)} {names : List ByteArray} {k : Nat} {s : ByteArray} (h : names[k]? = some s) : colsCells cs (names.take (k + 1)) = colsCells cs (names.take k) ++ colCells (s, typeOf cs s) := by
  rw [take_snoc h, colsCells, List.flatMap_append]
  simp [colsCells]

theorem typeOf_size {cs : List (ByteArray × ByteArray)} (h : ∀ (j : Nat) (c : ByteArray × ByteArray), cs[j]? = some c → c.1.size ≤ 1048576 ∧ c.2.size ≤ 1048576) (n : ByteArray) : (typeOf cs n).size ≤ 1048576 := by
  have h' : ∀ c ∈ cs, c.2.size ≤ 1048576 := fun c hc => by
    obtain ⟨j, hj⟩ := List.getElem?_of_mem hc
    exact (h j c hj).2
  have gen : ∀ (l : List (ByteArray × ByteArray)) (acc : ByteArray), (∀ c ∈ l, c.2.size ≤ 1048576) → acc.size ≤ 1048576 → (l.foldl (fun acc c => if (c.1.toList == n.toList) = true then c.2 else acc) acc).size ≤ 1048576 := by
    intro l
    induction l with
    | nil => intro acc _ ha; exact ha
    | cons c l ih =>
      intro acc hl ha
      refine ih _ (fun c hc => hl c (List.mem_cons_of_mem _ hc)) ?_
      dsimp only
      split
      · exact hl c (List.mem_cons_self ..)
      · exact ha
  exact gen cs _ h' (by decide)

theorem colText_len (cs : List (ByteArray × ByteArray)) (n : ByteArray) : (colText cs n).length = n.size + (typeOf cs n).size + 2 := by
  simp only [colText, List.length_append, List.length_cons, List.length_nil]
  show n.data.toList.length + 1 + (typeOf cs n).data.toList.length + 1 = _
  rw [Array.length_toList, Array.length_toList]
  show n.size + 1 + (typeOf cs n).size + 1 = _
  omega

theorem colsText_len {cs : List (ByteArray × ByteArray)} {names : List ByteArray} (hc : ∀ (j : Nat) (c : ByteArray × ByteArray), cs[j]? = some c → c.1.size ≤ 1048576 ∧ c.2.size ≤ 1048576) (hn : ∀ (j : Nat) (u : ByteArray), names[j]? = some u → u.size ≤ 1048576) :
    ∀ k, k ≤ names.length → (colsText cs (names.take k)).length ≤ k * 2097154
  | 0, _ => by simp [colsText]
  | k + 1, h => by
    have ih := colsText_len hc hn k (by omega)
    have e : names[k]? = some (names[k]'(by omega)) := List.getElem?_eq_getElem _
    rw [colsText_snoc e, List.length_append, colText_len]
    have h1 := hn _ _ e
    have h2 := typeOf_size hc (names[k]'(by omega))
    omega

/-- Owned rows of two element types lie in two blocks. -/
theorem rows_ne {w : World} {b1 b2 : Nat} {e1 e2 : TypeId} {s1 s2 : Nat} {v1 v2 : Value} {n1 n2 : Nat} {x1 x2 : List Value} (h1 : w.ownsRow b1 e1 s1 v1 n1 x1) (h2 : w.ownsRow b2 e2 s2 v2 n2 x2) (hne : e1 ≠ e2) : v1.ownBlock = none ∨ v1.ownBlock ≠ v2.ownBlock := by
  rcases h1.2 with ⟨rfl, _⟩ | ⟨g, cap, cur, rfl, _, hg, _⟩
  · exact .inl rfl
  · refine .inr ?_
    rcases h2.2 with ⟨rfl, _⟩ | ⟨g2, cap2, cur2, rfl, _, hg2, _⟩
    · simp [Value.ownBlock]
    · simp only [Value.ownBlock, ne_eq, Option.some.injEq]
      rintro rfl
      rw [hg] at hg2
      simp only [Option.some.injEq, Obj.cells.injEq] at hg2
      exact hne hg2.2.1
theorem row_ne_block {w : World} {b : Nat} {e T : TypeId} {s : Nat} {v : Value} {n : Nat} {xs : List Value} {k : Nat} {C : Array Value} {f : Nat × Nat} (h : w.ownsRow b e s v n xs) (hk : w.heap[k]? = some (.cells C T f)) (hne : T ≠ e) : v.ownBlock ≠ some k := by
  rcases h.2 with ⟨rfl, _⟩ | ⟨g, cap, cur, rfl, _, hg, _⟩
  · simp [Value.ownBlock]
  · simp only [Value.ownBlock, ne_eq, Option.some.injEq]
    rintro rfl
    rw [hg] at hk
    simp only [Option.some.injEq, Obj.cells.injEq] at hk
    exact hne hk.2.1.symm

theorem cells_new (w : World) (t : TypeId) (cs : List Value) : ∀ j u, cs[j]? = some u → (w.alloc (.cells cs.toArray t)).cell? ((⟨w.heap.size, 0, none⟩ : Addr).add j) = some u := by
  intro j u hu
  have hb : (w.alloc (.cells cs.toArray t)).heap[w.heap.size]? = some (.cells cs.toArray t (0, 0)) := by
    show (w.heap.push _)[w.heap.size]? = _
    simp
  rw [Addr.add_mid, Lib.cell_of_heap hb]
  simpa using hu
theorem one_cells_col (c : ByteArray × ByteArray) : ∀ u ∈ colCells c, u.oneCell' = true := by
  intro u hu
  have h : (colCells c).all (fun u => u.oneCell') = true := rfl
  exact List.all_eq_true.1 h u hu

structure R3 (wc : World) (bb : Nat) (cs : List (ByteArray × ByteArray)) (names : List ByteArray) (k : Nat) (v : Value) (wr : World) : Prop where
  types : Types wr wc.heap.size cs.length cs
  cols : wr.ownsRow wc.heap.size 42 23 v k (colsCells cs (names.take k))
  nil : k = 0 → v = .slice none 0 0
  bld : ∃ p vb, BAt wr bb p vb ∧ (p = .pointer none ∨ p = .pointer (some ⟨bb, 0, none⟩)) ∧ wr.ownsRow wc.heap.size 5 1 vb (Lib.byteCells (colsText cs (names.take k))).length (Lib.byteCells (colsText cs (names.take k))) ∧ (k = 0 → vb = .slice none 0 0)
  below : Below wc.heap.size wc wr
  hbb : wc.heap.size ≤ bb

theorem R3.start {wc wr : World} {cs : List (ByteArray × ByteArray)} (names : List ByteArray) (ht : Types wr wc.heap.size cs.length cs) (hb : Below wc.heap.size wc wr) :
    R3 wc wr.heap.size cs names 0 (.slice none 0 0) (wr.alloc (.cells #[.pointer none, .slice none 0 0] 58)) := by
  refine ⟨ht.kept (World.grownBy_alloc _ _ none) (by simp), ?_, fun _ => rfl, ⟨.pointer none, .slice none 0 0, ?_, .inl rfl, ?_, fun _ => rfl⟩, hb.alloc hb.size _, hb.size⟩
  · simpa [colsCells] using World.ownsRow_nil _ _ _ _
  · show (wr.heap.push _)[wr.heap.size]? = _
    simp
  · simpa [colsText, Lib.byteCells] using World.ownsRow_nil _ _ _ _

/-- Behind the append of a column: the builder and the map stand as they stood. -/
theorem R3.mid {wc wr w1 : World} {bb : Nat} {cs : List (ByteArray × ByteArray)} {names : List ByteArray} {k : Nat} {v : Value} (h : R3 wc bb cs names k v wr) {o : Obj} (hg : (wr.alloc o).grownBy w1 v.ownBlock) :
    (∃ p vb, BAt w1 bb p vb ∧ (p = .pointer none ∨ p = .pointer (some ⟨bb, 0, none⟩)) ∧ w1.ownsRow wc.heap.size 5 1 vb (Lib.byteCells (colsText cs (names.take k))).length (Lib.byteCells (colsText cs (names.take k)))) ∧ Types w1 wc.heap.size cs.length cs ∧ Below wc.heap.size wc w1 := by
  obtain ⟨ht, hc, hn, ⟨p, vb, h1, h2, h3, _⟩, hb, hbb⟩ := h
  have hall : wr.grownBy w1 v.ownBlock := (World.grownBy_alloc wr o v.ownBlock).trans hg
  have hne : v.ownBlock ≠ some bb := row_ne_block hc h1 (by decide)
  refine ⟨⟨p, vb, ?_, h2, ?_⟩, ?_, ?_⟩
  · exact (hall.block bb (lt_of_block h1) (fun e => hne e.symm)).trans h1
  · exact h3.kept hall (rows_ne h3 hc (by decide))
  · exact ht.kept hall (ht.ne_row hc)
  · exact hb.grown hall hb.size (fun j hj => (hc.lt j hj).1)

/-- Behind the builder's write: the round is done. -/
theorem R3.step {wc w1 w2 a1 a2 : World} {bb : Nat} {cs : List (ByteArray × ByteArray)} {names : List ByteArray} {k : Nat} {v' vb vb' : Value} {s : ByteArray} {p : Value} (hs : names[k]? = some s)
    (ht : Types w1 wc.heap.size cs.length cs) (hc : w1.ownsRow wc.heap.size 42 23 v' (k + 1) (colsCells cs (names.take k) ++ colCells (s, typeOf cs s))) (hb : Below wc.heap.size wc w1) (hbb : wc.heap.size ≤ bb)
    (hvb : w1.ownsRow wc.heap.size 5 1 vb (Lib.byteCells (colsText cs (names.take k))).length (Lib.byteCells (colsText cs (names.take k)))) (hat : BAt w1 bb p vb)
    (g1 : w1.grownBy a1 (some bb)) (g2 : a1.grownBy a2 vb.ownBlock) (g3 : a2.grownBy w2 (some bb)) (hat' : BAt w2 bb (.pointer (some ⟨bb, 0, none⟩)) vb')
    (hvb' : w2.ownsRow wc.heap.size 5 1 vb' (Lib.byteCells (colsText cs (names.take k)) ++ Lib.strCells (s ++ ⟨#[0]⟩ ++ typeOf cs s ++ ⟨#[0]⟩)).length (Lib.byteCells (colsText cs (names.take k)) ++ Lib.strCells (s ++ ⟨#[0]⟩ ++ typeOf cs s ++ ⟨#[0]⟩))) :
    R3 wc bb cs names (k + 1) v' w2 := by
  have n1 : v'.ownBlock ≠ some bb := row_ne_block hc hat (by decide)
  have n2 := rows_ne hc hvb (by decide)
  have m1 : wc.heap.size ≠ bb := ht.ne hat
  have m2 := ht.ne_row hvb
  have n3 : vb.ownBlock ≠ some bb := row_ne_block hvb hat (by decide)
  have hb1 := hb.grown g1 hb.size (fun j hj => by cases hj; exact hbb)
  have hb2 := hb1.grown g2 hb1.size (fun j hj => (hvb.lt j hj).1)
  have hb3 := hb2.grown g3 hb2.size (fun j hj => by cases hj; exact hbb)
  have e : Lib.byteCells (colsText cs (names.take k)) ++ Lib.strCells (s ++ ⟨#[0]⟩ ++ typeOf cs s ++ ⟨#[0]⟩) = Lib.byteCells (colsText cs (names.take (k + 1))) := by
    rw [colsText_snoc hs, Lib.byteCells_append, Lib.strCells_eq]
    congr 2
  refine ⟨?_, ?_, fun h => by omega, ⟨_, vb', hat', .inr rfl, by rw [← e]; exact hvb', fun h => by omega⟩, hb3, hbb⟩
  · refine ((ht.kept g1 (by simpa using m1)).kept g2 m2).kept g3 (by simpa using m1)
  · rw [colsCells_snoc hs]
    exact ((hc.kept g1 (.inr n1)).kept g2 n2).kept g3 (.inr n1)

/-- The builder's text at the loop's end. -/
theorem R3.string {wc wr : World} {bb : Nat} {cs : List (ByteArray × ByteArray)} {names : List ByteArray} {k : Nat} {v : Value} (h : R3 wc bb cs names k v wr) (hk : k = names.length) :
    Calls Try.prog 15 #[.pointer (some ⟨bb, 0, none⟩)] wr fun e w' => e = .returned (.string ⟨(colsText cs names).toArray⟩) ∧ w'.ownsRow wc.heap.size 42 23 v names.length (colsCells cs names) ∧ Below wc.heap.size wc w' := by
  subst hk
  obtain ⟨ht, hc, hn, ⟨p, vb, h1, h2, h3, h4⟩, hb, hbb⟩ := h
  rw [List.take_of_length_le (Nat.le_refl _)] at hc h3
  by_cases h0 : names.length = 0
  · have hv := h4 h0
    subst hv
    refine (builderStringNil bb p wr h1).mono ?_
    rintro e w' ⟨rfl, hg⟩
    have hnn : names = [] := List.length_eq_zero_iff.1 h0
    subst hnn
    exact ⟨rfl, hc.kept hg (by by_cases e : v.ownBlock = none; exact .inl e; exact .inr e), hb.grown hg hb.size (fun j hj => by cases hj)⟩
  · have hne : colsText cs names ≠ [] := by
      cases names with
      | nil => simp at h0
      | cons x xs => simp [colsText, colText]
    refine (builderString wc.heap.size bb p vb (colsText cs names) wr h1 h3 hne).mono ?_
    rintro e w' ⟨rfl, hg⟩
    exact ⟨rfl, hc.kept hg (rows_ne hc h3 (by decide)), hb.grown hg hb.size (fun j hj => (h3.lt j hj).1)⟩

end Go.Proofs.Qxb6615940a
