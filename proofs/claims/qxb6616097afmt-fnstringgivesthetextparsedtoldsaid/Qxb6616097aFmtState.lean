/-
  THE PARSER's STATE as the walks carry it: p is a block of three cells, its template a block of four, the template's two rows are the call's own.
  No Go function is walked here.
-/
import Derived.Test.Qxb6616097aFmtRows
import Derived.Test.Qxb6616097aFmtFacts
import Derived.WalkKit
import Derived.WalkSpells
import Derived.Below
import Derived.Lib.Builder
import Derived.Lib.OwnKind
import Derived.OneCell
import Derived.Laws.Rows
import Derived.Deep.AppendLies
import Derived.Deep.QuietTactic
import Derived.BigQuiet
namespace Go.Proofs.Qxb6616097aFmt
open Go.RowKit Go.Extern.Stop Go.Stop Go.Extern

/-- The row xs holds n segments: a number and a string each. -/
def Segs (n : Nat) (xs : List Value) : Prop := ∀ k, k < n → ∃ z t, xs[k * 2]? = some (.int .i64 z) ∧ xs[k * 2 + 1]? = some (.string t)
/-- The row ys holds m variables: a string and two numbers each. -/
def Vars (m : Nat) (ys : List Value) : Prop := ∀ k, k < m → ∃ f a b, ys[k * 3]? = some (.string f) ∧ ys[k * 3 + 1]? = some (.int .i64 a) ∧ ys[k * 3 + 2]? = some (.int .i64 b)

theorem Segs.snoc {n : Nat} {xs : List Value} (h : Segs n xs) (hl : xs.length = n * 2) (z : Int) (t : ByteArray) : Segs (n + 1) (xs ++ [.int .i64 z, .string t]) := by
  intro k hk
  by_cases e : k < n
  · obtain ⟨z', t', h0, h1⟩ := h k e
    refine ⟨z', t', ?_, ?_⟩
    · rw [List.getElem?_append_left (by omega)]; exact h0
    · rw [List.getElem?_append_left (by omega)]; exact h1
  · have : k = n := by omega
    subst this
    refine ⟨z, t, ?_, ?_⟩
    · rw [List.getElem?_append_right (by omega), hl, Nat.sub_self]; rfl
    · rw [List.getElem?_append_right (by omega), hl, Nat.add_sub_cancel_left]; rfl

theorem Vars.snoc {m : Nat} {ys : List Value} (h : Vars m ys) (hl : ys.length = m * 3) (f : ByteArray) (a b : Int) : Vars (m + 1) (ys ++ [.string f, .int .i64 a, .int .i64 b]) := by
  intro k hk
  by_cases e : k < m
  · obtain ⟨f', a', b', h0, h1, h2⟩ := h k e
    refine ⟨f', a', b', ?_, ?_, ?_⟩
    · rw [List.getElem?_append_left (by omega)]; exact h0
    · rw [List.getElem?_append_left (by omega)]; exact h1
    · rw [List.getElem?_append_left (by omega)]; exact h2
  · have : k = m := by omega
    subst this
    refine ⟨f, a, b, ?_, ?_, ?_⟩
    · rw [List.getElem?_append_right (by omega), hl, Nat.sub_self]; rfl
    · rw [List.getElem?_append_right (by omega), hl, Nat.add_sub_cancel_left]; rfl
    · rw [List.getElem?_append_right (by omega), hl, Nat.add_sub_cancel_left]; rfl

/-- The template's block and its two rows: n segments, m variables. -/
structure TS (B tb : Nat) (s verb : ByteArray) (sv vv : Value) (n m : Nat) (xs ys : List Value) (w : World) : Prop where
  blk : w.heap[tb]? = some (.cells #[.string s, sv, .string verb, vv] 64 (0, 0))
  so : w.ownsRow B 80 2 sv n xs
  vo : w.ownsRow B 82 3 vv m ys
  segs : Segs n xs
  vars : Vars m ys

/-- THE STATE: s the text, verb the verb, i the position; n + d and m + d are at most i. -/
structure PS (F : Interp) (W0 : World) (pb tb : Nat) (s verb : ByteArray) (i d : Nat) (w : World) : Prop where
  blk : w.heap[pb]? = some (.cells #[.string s, .int .i64 (i : Int), .pointer (some ⟨tb, 0, none⟩)] 66 (0, 0))
  rows : ∃ sv vv n m xs ys, TS W0.heap.size tb s verb sv vv n m xs ys w ∧ n + d ≤ i ∧ m + d ≤ i
  hp : W0.heap.size ≤ pb
  ht : W0.heap.size ≤ tb
  le : i ≤ s.size
  sz : s.size ≤ 4096
  bel : Below W0.heap.size W0 w
  ans : F.answers w.tape

section
variable {F : Interp} {W0 : World} {pb tb : Nat} {s verb : ByteArray} {i d : Nat} {w w' : World}

theorem heap_lt {b : Nat} {o : Obj} (h : w.heap[b]? = some o) : b < w.heap.size := by
  rcases Nat.lt_or_ge b w.heap.size with hlt | hge
  · exact hlt
  · rw [Array.getElem?_eq_none hge] at h; cases h

theorem owns_below {B : Nat} {e : TypeId} {k : Nat} {v : Value} {n : Nat} {xs : List Value} (h : w.ownsRow B e k v n xs) (hb : Below w.heap.size w w') : w'.ownsRow B e k v n xs :=
  h.kept (row := none) ⟨hb.os, hb.tape, hb.output, hb.size, fun j hj _ => hb.block j hj⟩ (by cases v.ownBlock <;> simp)

theorem TS.of_below {B : Nat} {sv vv : Value} {n m : Nat} {xs ys : List Value} (h : TS B tb s verb sv vv n m xs ys w) (hb : Below w.heap.size w w') : TS B tb s verb sv vv n m xs ys w' :=
  ⟨(hb.block _ (heap_lt h.blk)).trans h.blk, owns_below h.so hb, owns_below h.vo hb, h.segs, h.vars⟩

/-- Whatever leaves every block that is there as it is keeps the state. -/
theorem PS.of_below (h : PS F W0 pb tb s verb i d w) (hb : Below w.heap.size w w') : PS F W0 pb tb s verb i d w' := by
  obtain ⟨sv, vv, n, m, xs, ys, ht, hn, hm⟩ := h.rows
  exact ⟨(hb.block _ (heap_lt h.blk)).trans h.blk, ⟨sv, vv, n, m, xs, ys, ht.of_below hb, hn, hm⟩, h.hp, h.ht, h.le, h.sz, h.bel.trans (hb.mono h.bel.size), by rw [hb.tape]; exact h.ans⟩

theorem PS.less (h : PS F W0 pb tb s verb i d w) {d' : Nat} (hd : d' ≤ d) : PS F W0 pb tb s verb i d' w := by
  obtain ⟨sv, vv, n, m, xs, ys, ht, hn, hm⟩ := h.rows
  exact ⟨h.blk, ⟨sv, vv, n, m, xs, ys, ht, by omega, by omega⟩, h.hp, h.ht, h.le, h.sz, h.bel, h.ans⟩

theorem PS.c0 (h : PS F W0 pb tb s verb i d w) : w.cell? ⟨pb, 0, none⟩ = some (.string s) := by rw [Lib.cell_of_heap h.blk]; rfl
theorem PS.c1 (h : PS F W0 pb tb s verb i d w) : w.cell? ⟨pb, 1, none⟩ = some (.int .i64 (i : Int)) := by rw [Lib.cell_of_heap h.blk]; rfl
theorem PS.c2 (h : PS F W0 pb tb s verb i d w) : w.cell? ⟨pb, 2, none⟩ = some (.pointer (some ⟨tb, 0, none⟩)) := by rw [Lib.cell_of_heap h.blk]; rfl
theorem PS.fz (h : PS F W0 pb tb s verb i d w) (j : Nat) : w.frozen? ⟨pb, j, none⟩ = false := Lib.frozen_of_heap h.blk j
theorem PS.ne (h : PS F W0 pb tb s verb i d w) : pb ≠ tb := by
  obtain ⟨sv, vv, n, m, xs, ys, ht, _, _⟩ := h.rows
  rintro rfl
  have := h.blk.symm.trans ht.blk
  simp at this

theorem TS.far {B : Nat} {sv vv : Value} {n m : Nat} {xs ys : List Value} (h : TS B tb s verb sv vv n m xs ys w) {b : Nat} {cs : Array Value} {t : TypeId} (hb : w.heap[b]? = some (.cells cs t (0, 0))) (h1 : t ≠ 80) (h2 : t ≠ 82) :
    sv.ownBlock ≠ some b ∧ vv.ownBlock ≠ some b := by
  constructor
  · intro e
    obtain ⟨c, fz, hc⟩ := Lib.ownsRow_kind h.so b e
    rw [hb] at hc; simp at hc; exact h1 hc.2.1
  · intro e
    obtain ⟨c, fz, hc⟩ := Lib.ownsRow_kind h.vo b e
    rw [hb] at hc; simp at hc; exact h2 hc.2.1

/-- The position is moved on. -/
theorem PS.setI (h : PS F W0 pb tb s verb i d w) {i' d' : Nat} (hi : i + d' ≤ i' + d) (hl : i' ≤ s.size) : PS F W0 pb tb s verb i' d' (w.setCell ⟨pb, 1, none⟩ (.int .i64 (i' : Int))) := by
  have hne := h.ne
  have hlt := heap_lt h.blk
  obtain ⟨sv, vv, n, m, xs, ys, ht, hn, hm⟩ := h.rows
  obtain ⟨f1, f2⟩ := ht.far h.blk (by decide) (by decide)
  refine ⟨?_, ⟨sv, vv, n, m, xs, ys, ⟨?_, ownsRow_setCell_other ht.so f1 _, ownsRow_setCell_other ht.vo f2 _, ht.segs, ht.vars⟩, by omega, by omega⟩, h.hp, h.ht, hl, h.sz, h.bel.setCell h.hp _, h.ans⟩
  · rw [heap_setCell_same w pb 1 _ _ _ h.blk]; rfl
  · rw [heap_setCell_other _ _ _ _ (by exact hne.symm)]; exact ht.blk

/-- The verb is laid. -/
theorem PS.setVerb (h : PS F W0 pb tb s verb i d w) (verb' : ByteArray) : PS F W0 pb tb s verb' i d (w.setCell ⟨tb, 2, none⟩ (.string verb')) := by
  have hne := h.ne
  obtain ⟨sv, vv, n, m, xs, ys, ht, hn, hm⟩ := h.rows
  obtain ⟨f1, f2⟩ := ht.far ht.blk (by decide) (by decide)
  refine ⟨?_, ⟨sv, vv, n, m, xs, ys, ⟨?_, ownsRow_setCell_other ht.so f1 _, ownsRow_setCell_other ht.vo f2 _, ht.segs, ht.vars⟩, by omega, by omega⟩, h.hp, h.ht, h.le, h.sz, h.bel.setCell h.ht _, h.ans⟩
  · rw [heap_setCell_other _ _ _ _ (by exact hne)]; exact h.blk
  · rw [heap_setCell_same w tb 2 _ _ _ ht.blk]; rfl

theorem below_drewN {B : Nat} {a b : World} (h : Below B a b) (n : Nat) : Below B a (b.drewN n) := ⟨h.os, h.tape, h.output, h.size, h.block⟩
theorem PS.drewN (h : PS F W0 pb tb s verb i d w) (n : Nat) : PS F W0 pb tb s verb i d (w.drewN n) := h.of_below (below_drewN (Below.refl _ _) n)

theorem byte_of {i : Nat} (hi : i < s.size) {c : Int} (h : ((s[i].toNat : Int) == c) = true) : s.data[i]? = some c.toNat.toUInt8 := by
  have h1 : (s[i].toNat : Int) = c := by simpa using h
  have h2 : s.data[i]? = some s[i] := Array.getElem?_eq_getElem (by exact hi)
  rw [h2, ← h1]
  simp
theorem byte_not {i : Nat} (hi : i < s.size) {c : Int} (h : ((s[i].toNat : Int) == c) = false) : ∀ b, s.data[i]? = some b → (b.toNat : Int) ≠ c := by
  intro b hb
  have h2 : s.data[i]? = some s[i] := Array.getElem?_eq_getElem (by exact hi)
  rw [h2] at hb
  simp at hb
  subst hb
  simpa using h

/-- The position, read out of memory: for the loops' measures. -/
def posOf (pb : Nat) (w : World) : Nat := (intOf ((w.cell? ⟨pb, 1, none⟩).getD undef)).toNat
theorem PS.pos (h : PS F W0 pb tb s verb i d w) : posOf pb w = i := by simp [posOf, h.c1, intOf]

/-- Between i and i' the text has no colon. -/
def Adv (s : ByteArray) (i i' : Nat) : Prop := i ≤ i' ∧ ∀ k, i ≤ k → k < i' → s.data[k]? ≠ some 58
theorem Adv.refl (s : ByteArray) (i : Nat) : Adv s i i := ⟨Nat.le_refl _, fun k h1 h2 => by omega⟩
theorem Adv.trans {a b c : Nat} (h : Adv s a b) (k : Adv s b c) : Adv s a c := ⟨Nat.le_trans h.1 k.1, fun j h1 h2 => by
  by_cases e : j < b
  · exact h.2 j h1 e
  · exact k.2 j (by omega) h2⟩
theorem Adv.one {a : Nat} (h : s.data[a]? ≠ some 58) : Adv s a (a + 1) := ⟨by omega, fun j h1 h2 => by
  have : j = a := by omega
  subst this; exact h⟩
end
end Go.Proofs.Qxb6616097aFmt
