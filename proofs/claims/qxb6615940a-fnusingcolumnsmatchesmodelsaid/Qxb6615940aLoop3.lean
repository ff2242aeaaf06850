/-
  The third loop of usingColumns: what a round does to the call's own memory. Outside the walk.
-/
import Derived.Test.Qxb6615940aTypes
import Derived.Test.Qxb6615940aLay
import Derived.Test.Qxb6615940aRows23
namespace Go.Proofs.Qxb6615940a
open Go.RowKit

def colText (cs : List (ByteArray × ByteArray)) (n : ByteArray) : List UInt8 := n.data.toList ++ [0] ++ (typeOf cs n).data.toList ++ [0]
def colsText (cs : List (ByteArray × ByteArray)) (names : List ByteArray) : List UInt8 := names.flatMap (colText cs)
def colsCells (cs : List (ByteArray × ByteArray)) (names : List ByteArray) : List Value := names.flatMap fun n => colCells (n, typeOf cs n)

theorem colsText_snoc {cs : List (ByteArray × ByteArray)} {names : List ByteArray} {k : Nat} {s : ByteArray} (h : names[k]? = some s) : colsText cs (names.take (k + 1)) = colsText cs (names.take k) ++ colText cs s := by
  rw [take_snoc h, colsText, List.flatMap_append]
  simp [colsText]
theorem colsCells_snoc {cs : List (ByteArray × ByteArray)} {names : List ByteArray} {k : Nat} {s : ByteArray} (h : names[k]? = some s) : colsCells cs (names.take (k + 1)) = colsCells cs (names.take k) ++ colCells (s, typeOf cs s) := by
  rw [take_snoc h, colsCells, List.flatMap_append]
  simp [colsCells]

theorem typeOf_size {cs : List (ByteArray × ByteArray)} (h : ∀ (j : Nat) (c : ByteArray × ByteArray), cs[j]? = some c → c.1.size ≤ 1048576 ∧ c.2.size ≤ 1048576) (n : ByteArray) : (typeOf cs n).size ≤ 1048576 := by
  have h' : ∀ c ∈ cs, c.2.size ≤ 1048576 := fun c hc => by
    obtain ⟨j, hj⟩ := List.getElem?_of_mem hc
    exact (h j c hj).2
  have gen : ∀ (l : List (ByteArray × ByteArray)) (acc : ByteArray), (∀ c ∈ l, c.2.size ≤ 1048576) → acc.size ≤ 1048576 → (l.foldl (fun acc c => if (c.1.toList == n.toList) = true then c.2 else acc) acc).size ≤ 1048576 := by
    intro l
    induction l with
    | nil => intro acc _ ha; exact ha
    | cons c l ih =>
      intro acc hl ha
      refine ih _ (fun c hc => hl c (List.mem_cons_of_mem _ hc)) ?_
      dsimp only
      split
      · exact hl c (List.mem_cons_self ..)
      · exact ha
  exact gen cs _ h' (by decide)

theorem colText_len (cs : List (ByteArray × ByteArray)) (n : ByteArray) : (colText cs n).length = n.size + (typeOf cs n).size + 2 := by
  simp only [colText, List.length_append, List.length_cons, List.length_nil]
  show n.data.toList.length + 1 + (typeOf cs n).data.toList.length + 1 = _
  rw [Array.length_toList, Array.length_toList]
  show n.size + 1 + (typeOf cs n).size + 1 = _
  omega

theorem colsText_len {cs : List (ByteArray × ByteArray)} {names : List ByteArray} (hc : ∀ (j : Nat) (c : ByteArray × ByteArray), cs[j]? = some c → c.1.size ≤ 1048576 ∧ c.2.size ≤ 1048576) (hn : ∀ (j : Nat) (u : ByteArray), names[j]? = some u → u.size ≤ 1048576) :
    ∀ k, k ≤ names.length → (colsText cs (names.take k)).length ≤ k * 2097154
  | 0, _ => by simp [colsText]
  | k + 1, h => by
    have ih := colsText_len hc hn k (by omega)
    have e : names[k]? = some (names[k]'(by omega)) := List.getElem?_eq_getElem _
    rw [colsText_snoc e, List.length_append, colText_len]
    have h1 := hn _ _ e
    have h2 := typeOf_size hc (names[k]'(by omega))
    omega

/-- Owned rows of two element types lie in two blocks. -/
theorem rows_ne {w : World} {b1 b2 : Nat} {e1 e2 : TypeId} {s1 s2 : Nat} {v1 v2 : Value} {n1 n2 : Nat} {x1 x2 : List Value} (h1 : w.ownsRow b1 e1 s1 v1 n1 x1) (h2 : w.ownsRow b2 e2 s2 v2 n2 x2) (hne : e1 ≠ e2) : v1.ownBlock = none ∨ v1.ownBlock ≠ v2.ownBlock := by
  rcases h1.2 with ⟨rfl, _⟩ | ⟨g, cap, cur, rfl, _, hg, _⟩
  · exact .inl rfl
  · refine .inr ?_
    rcases h2.2 with ⟨rfl, _⟩ | ⟨g2, cap2, cur2, rfl, _, hg2, _⟩
    · simp [Value.ownBlock]
    · simp only [Value.ownBlock, ne_eq, Option.some.injEq]
      rintro rfl
      rw [hg] at hg2
      simp only [Option.some.injEq, Obj.cells.injEq] at hg2
      exact hne hg2.2.1
theorem row_ne_block {w : World} {b : Nat} {e T : TypeId} {s : Nat} {v : Value} {n : Nat} {xs : List Value} {k : Nat} {C : Array Value} {f : Nat × Nat} (h : w.ownsRow b e s v n xs) (hk : w.heap[k]? = some (.cells C T f)) (hne : T ≠ e) : v.ownBlock ≠ some k := by
  rcases h.2 with ⟨rfl, _⟩ | ⟨g, cap, cur, rfl, _, hg, _⟩
  · simp [Value.ownBlock]
  · simp only [Value.ownBlock, ne_eq, Option.some.injEq]
    rintro rfl
    rw [hg] at hk
    simp only [Option.some.injEq, Obj.cells.injEq] at hk
    exact hne hk.2.1.symm

theorem cells_new (w : World) (t : TypeId) (cs : List Value) : ∀ j u, cs[j]? = some u → (w.alloc (.cells cs.toArray t)).cell? ((⟨w.heap.size, 0, none⟩ : Addr).add j) = some u := by
  intro j u hu
  have hb : (w.alloc (.cells cs.toArray t)).heap[w.heap.size]? = some (.cells cs.toArray t (0, 0)) := by
    show (w.heap.push _)[w.heap.size]? = _
    simp
  rw [Addr.add_mid, Lib.cell_of_heap hb]
  simpa using hu
theorem one_cells_col (c : ByteArray × ByteArray) : ∀ u ∈ colCells c, u.oneCell' = true := by
  intro u hu
  have h : (colCells c).all (fun u => u.oneCell') = true := rfl
  exact List.all_eq_true.1 h u hu

theorem Try.info5 : (Try.prog.info? 5).map (fun i => (i.zero, i.size, i.bytes)) = some (some (.int .u8 0), 1, 1) := by kernel_rfl

theorem builder_block {w : World} {B b : Nat} {bs : List Value} (h : Lib.IsBuilderF 58 5 B b bs w) : ∃ C, w.heap[b]? = some (.cells C 58 (0, 0)) := by
  rcases h with ⟨_, v, hb, _⟩ | ⟨_, v, hb, _⟩
  · exact ⟨_, hb⟩
  · exact ⟨_, hb⟩

theorem builderAt_kept {w w' : World} {B b : Nat} {p : Value} {bs : List Value} {row : Option Nat} (h : Lib.BuilderAtF 58 5 B b p bs w) (hg : w.grownBy w' row) (h1 : row ≠ some b) (h2 : ∀ g c fz, row = some g → w.heap[g]? ≠ some (.cells c 5 fz)) : Lib.BuilderAtF 58 5 B b p bs w' := by
  obtain ⟨hB, v, hb, hown, hne⟩ := h
  refine ⟨hB, v, (hg.block b (lt_of_block hb) (fun e => h1 e.symm)).trans hb, hown.kept hg ?_, hne⟩
  cases hv : v.ownBlock with
  | none => exact .inl rfl
  | some g =>
    refine .inr (fun e => ?_)
    obtain ⟨c, fz, hh⟩ := Lib.ownsRowF_kind hown g hv
    exact h2 g c fz e.symm hh

theorem builder_kept {w w' : World} {B b : Nat} {bs : List Value} {row : Option Nat} (h : Lib.IsBuilderF 58 5 B b bs w) (hg : w.grownBy w' row) (h1 : row ≠ some b) (h2 : ∀ g c fz, row = some g → w.heap[g]? ≠ some (.cells c 5 fz)) : Lib.IsBuilderF 58 5 B b bs w' :=
  h.elim (fun x => .inl (builderAt_kept x hg h1 h2)) (fun x => .inr (builderAt_kept x hg h1 h2))

theorem row_kind {w : World} {b : Nat} {e : TypeId} {s : Nat} {v : Value} {n : Nat} {xs : List Value} (h : w.ownsRow b e s v n xs) {g : Nat} (hv : v.ownBlock = some g) : ∃ c, w.heap[g]? = some (.cells c e (0, 0)) := by
  rcases h.2 with ⟨rfl, _⟩ | ⟨g', cap, cur, rfl, _, hg, _⟩
  · cases hv
  · cases hv
    exact ⟨_, hg⟩

theorem ownsRow_others {w w' : World} {base : Nat} {e : TypeId} {size : Nat} {v : Value} {n : Nat} {xs : List Value} {b : Nat} (h : w.ownsRow base e size v n xs) (ho : Lib.OthersKept 5 (some b) w w') (hne : v.ownBlock ≠ some b) (he : e ≠ 5) : w'.ownsRow base e size v n xs := by
  obtain ⟨h1, h2⟩ := h
  refine ⟨h1, ?_⟩
  rcases h2 with h2 | ⟨g, cap, cur, rfl, hg, hh, r⟩
  · exact .inl h2
  · refine .inr ⟨g, cap, cur, rfl, hg, ho g _ hh hne ?_, r⟩
    intro c fz hc
    simp only [Obj.cells.injEq] at hc
    exact he hc.2.1

theorem Types.others {w w' : World} {M k : Nat} {cs : List (ByteArray × ByteArray)} {b : Nat} (h : Types w M k cs) (ho : Lib.OthersKept 5 (some b) w w') (hne : M ≠ b) : Types w' M k cs := by
  obtain ⟨D, ⟨es, clock, hb, r⟩, hat⟩ := h
  exact ⟨D, ⟨es, clock, ho M _ hb (by simpa using hne) (fun c fz hc => by cases hc), r⟩, hat⟩

structure R3 (wc : World) (bb : Nat) (cs : List (ByteArray × ByteArray)) (names : List ByteArray) (k : Nat) (v : Value) (wr : World) : Prop where
  types : Types wr wc.heap.size cs.length cs
  cols : wr.ownsRow wc.heap.size 42 23 v k (colsCells cs (names.take k))
  nil : k = 0 → v = .slice none 0 0
  bld : Lib.IsBuilderF 58 5 wc.heap.size bb (Lib.byteCells (colsText cs (names.take k))) wr
  below : Below wc.heap.size wc wr

theorem R3.start {wc wr : World} {cs : List (ByteArray × ByteArray)} (names : List ByteArray) (ht : Types wr wc.heap.size cs.length cs) (hb : Below wc.heap.size wc wr) :
    R3 wc wr.heap.size cs names 0 (.slice none 0 0) (wr.alloc (.cells #[.pointer none, .slice none 0 0] 58)) := by
  refine ⟨ht.kept (World.grownBy_alloc _ _ none) (by simp), ?_, fun _ => rfl, .inl ⟨hb.size, .slice none 0 0, ?_, ?_, by simp [Value.ownBlock]⟩, hb.alloc hb.size _⟩
  · simpa [colsCells] using World.ownsRow_nil _ _ _ _
  · show (wr.heap.push _)[wr.heap.size]? = _
    simp
  · simpa [colsText, Lib.byteCells] using World.ownsRowF_nil _ _ _ _

/-- Behind the append of a column: the builder and the map stand as they stood. -/
theorem R3.mid {wc wr w1 : World} {bb : Nat} {cs : List (ByteArray × ByteArray)} {names : List ByteArray} {k : Nat} {v : Value} (h : R3 wc bb cs names k v wr) {o : Obj} (hg : (wr.alloc o).grownBy w1 v.ownBlock) :
    Lib.IsBuilderF 58 5 wc.heap.size bb (Lib.byteCells (colsText cs (names.take k))) w1 ∧ Types w1 wc.heap.size cs.length cs ∧ Below wc.heap.size wc w1 := by
  obtain ⟨ht, hc, hn, hbd, hb⟩ := h
  have hall : wr.grownBy w1 v.ownBlock := (World.grownBy_alloc wr o v.ownBlock).trans hg
  obtain ⟨C, hC⟩ := builder_block hbd
  have hne : v.ownBlock ≠ some bb := row_ne_block hc hC (by decide)
  refine ⟨builder_kept hbd hall hne (fun g c fz hv hh => ?_), ht.kept hall (ht.ne_row hc), hb.grown hall hb.size (fun j hj => (hc.lt j hj).1)⟩
  obtain ⟨c2, hh2⟩ := row_kind hc hv
  rw [hh] at hh2
  simp at hh2

/-- Behind the builder's write: the round is done. -/
theorem R3.step {wc w1 w2 : World} {bb : Nat} {cs : List (ByteArray × ByteArray)} {names : List ByteArray} {k : Nat} {v' : Value} {s : ByteArray} {bs : List Value} (hs : names[k]? = some s)
    (ht : Types w1 wc.heap.size cs.length cs) (hc : w1.ownsRow wc.heap.size 42 23 v' (k + 1) (colsCells cs (names.take k) ++ colCells (s, typeOf cs s))) (hb : Below wc.heap.size wc w1)
    (h1 : Lib.IsBuilderF 58 5 wc.heap.size bb bs w1)
    (h2 : Lib.BuilderAtF 58 5 wc.heap.size bb (.pointer (some ⟨bb, 0, none⟩)) (Lib.byteCells (colsText cs (names.take k)) ++ Lib.strCells (s ++ ⟨#[0]⟩ ++ typeOf cs s ++ ⟨#[0]⟩)) w2) (hb2 : Below wc.heap.size w1 w2) (ho : Lib.OthersKept 5 (some bb) w1 w2) :
    R3 wc bb cs names (k + 1) v' w2 := by
  obtain ⟨C, hC⟩ := builder_block h1
  have n1 : v'.ownBlock ≠ some bb := row_ne_block hc hC (by decide)
  have m1 : wc.heap.size ≠ bb := ht.ne hC
  have e : Lib.byteCells (colsText cs (names.take k)) ++ Lib.strCells (s ++ ⟨#[0]⟩ ++ typeOf cs s ++ ⟨#[0]⟩) = Lib.byteCells (colsText cs (names.take (k + 1))) := by
    rw [colsText_snoc hs, Lib.byteCells_append, Lib.strCells_eq]
    congr 2
  refine ⟨ht.others ho m1, ?_, fun h => by omega, .inr (by rw [← e]; exact h2), hb.trans hb2⟩
  rw [colsCells_snoc hs]
  exact ownsRow_others hc ho n1 (by decide)

/-- The builder's text at the loop's end. -/
theorem R3.string {wc wr : World} {bb : Nat} {cs : List (ByteArray × ByteArray)} {names : List ByteArray} {k : Nat} {v : Value} (h : R3 wc bb cs names k v wr) (hk : k = names.length) :
    Calls Try.prog 15 #[.pointer (some ⟨bb, 0, none⟩)] wr fun e w' => e = .returned (.string ⟨(colsText cs names).toArray⟩) ∧ w'.ownsRow wc.heap.size 42 23 v names.length (colsCells cs names) ∧ Below wc.heap.size wc w' := by
  subst hk
  obtain ⟨ht, hc, hn, hbd, hb⟩ := h
  rw [List.take_of_length_le (Nat.le_refl _)] at hc hbd
  obtain ⟨C, hC⟩ := builder_block hbd
  have n1 : v.ownBlock ≠ some bb := row_ne_block hc hC (by decide)
  refine (Try.Builder_String_any_k wc.heap.size bb (colsText cs names) wr hbd hb.size).mono ?_
  rintro e w' ⟨rfl, _, hb2, ho⟩
  exact ⟨rfl, ownsRow_others hc ho n1 (by decide), hb.trans hb2⟩

end Go.Proofs.Qxb6615940a
