/- append onto the template's two rows, as one step of a region that draws its order. -/
import Derived.Test.Qxb6616097aFmtState
import Derived.Deep.RegionHeld3
namespace Go.Proofs.Qxb6616097aFmt
open Go.RowKit Go.Extern.Stop Go.Stop Go.Extern

theorem Tryf.info80 : (Tryf.prog.info? 80).map (fun i => (i.zero, i.size, i.bytes)) = some (some (.agg #[.int .i64 0, .string ⟨#[]⟩]), 2, 24) := by kernel_rfl
theorem Tryf.info82 : (Tryf.prog.info? 82).map (fun i => (i.zero, i.size, i.bytes)) = some (some (.agg #[.string ⟨#[]⟩, .int .i64 0, .int .i64 0]), 3, 32) := by kernel_rfl

theorem info_of {e : TypeId} {z : Value} {size bytes : Nat} (h : (Tryf.prog.info? e).map (fun i => (i.zero, i.size, i.bytes)) = some (some z, size, bytes)) : ∃ i, Tryf.prog.info? e = some i ∧ i.zero = some z ∧ i.size = size ∧ i.bytes = bytes := by
  cases hi : Tryf.prog.info? e with
  | none => rw [hi] at h; cases h
  | some i =>
    rw [hi] at h
    simp only [Option.map_some, Option.some.injEq, Prod.mk.injEq] at h
    exact ⟨i, rfl, h.1, h.2.1, h.2.2⟩

theorem step_seg {ops : Array Oper} {o : Oper} {a : Act} {K : Act → World → Prop} {Q : Exit → Act → World → Prop} {E : Prop} (w : World) (hgd : o.guard = none) (s x : Operand)
    (ho : o.op = .call { callee := .builtin .append, args := #[s, x], argTypes := #[61, 61] })
    (B : Nat) (v : Value) (n : Nat) (xs : List Value) (hs : a.eval s = v) (hown : w.ownsRow B 80 2 v n xs) (g0 : Nat) (z : Int) (t : ByteArray) (hx : a.eval x = .slice (some ⟨g0, 0, none⟩) 1 1)
    (hb : w.heap[g0]? = some (.cells #[.int .i64 z, .string t] 80 (0, 0))) (hn : n ≤ 4096) (hB : B ≤ w.heap.size)
    (h : ∀ g cap w', w'.ownsRow B 80 2 (.slice (some ⟨g, 0, none⟩) (n + 1) cap) (n + 1) (xs ++ [.int .i64 z, .string t]) → w.grownBy w' v.ownBlock → K (a.put o.dst (.slice (some ⟨g, 0, none⟩) (n + 1) cap)) w') :
    if Region.wanted o (yielded ops a.tmps) = true then Oper.wp Tryf.prog o a w K Q else E := by
  obtain ⟨i, hi, hz, h1, h2⟩ := info_of Tryf.info80
  refine step_append_lies w hgd s x 61 ho B 80 i _ 2 24 Tryf.underlying61 hi hz h1 h2 rfl (by decide) v n xs hs hown ⟨g0, 0, none⟩ 1 1 [.int .i64 z, .string t] hx rfl (World.news_of_block hb) ?_ (by decide) ?_ (by omega) hB _ rfl
    (fun g cap w' h1 h2 _ _ => h g cap w' h1 h2)
  · intro u hu
    simp at hu
    rcases hu with rfl | rfl <;> rfl
  · have : maxLen = 9223372036854775807 := rfl
    omega

theorem step_var {ops : Array Oper} {o : Oper} {a : Act} {K : Act → World → Prop} {Q : Exit → Act → World → Prop} {E : Prop} (w : World) (hgd : o.guard = none) (s x : Operand)
    (ho : o.op = .call { callee := .builtin .append, args := #[s, x], argTypes := #[62, 62] })
    (B : Nat) (v : Value) (n : Nat) (xs : List Value) (hs : a.eval s = v) (hown : w.ownsRow B 82 3 v n xs) (g0 : Nat) (t : ByteArray) (p q : Int) (hx : a.eval x = .slice (some ⟨g0, 0, none⟩) 1 1)
    (hb : w.heap[g0]? = some (.cells #[.string t, .int .i64 p, .int .i64 q] 82 (0, 0))) (hn : n ≤ 4096) (hB : B ≤ w.heap.size)
    (h : ∀ g cap w', w'.ownsRow B 82 3 (.slice (some ⟨g, 0, none⟩) (n + 1) cap) (n + 1) (xs ++ [.string t, .int .i64 p, .int .i64 q]) → w.grownBy w' v.ownBlock → K (a.put o.dst (.slice (some ⟨g, 0, none⟩) (n + 1) cap)) w') :
    if Region.wanted o (yielded ops a.tmps) = true then Oper.wp Tryf.prog o a w K Q else E := by
  obtain ⟨i, hi, hz, h1, h2⟩ := info_of Tryf.info82
  refine step_append_lies w hgd s x 62 ho B 82 i _ 3 32 Tryf.underlying62 hi hz h1 h2 rfl (by decide) v n xs hs hown ⟨g0, 0, none⟩ 1 1 [.string t, .int .i64 p, .int .i64 q] hx rfl (World.news_of_block hb) ?_ (by decide) ?_ (by omega) hB _ rfl
    (fun g cap w' h1 h2 _ _ => h g cap w' h1 h2)
  · intro u hu
    simp at hu
    rcases hu with rfl | rfl | rfl <;> rfl
  · have : maxLen = 9223372036854775807 := rfl
    omega

section
variable {F : Interp} {W0 : World} {pb tb : Nat} {s verb : ByteArray} {i d : Nat} {w w' : World}

/-- Behind the append of a segment, and its store into the template. -/
theorem PS.appendedSeg {sv vv : Value} {n m : Nat} {xs ys : List Value} (h : PS F W0 pb tb s verb i d w) (ht : TS W0.heap.size tb s verb sv vv n m xs ys w) {d' : Nat} (hn : n + 1 + d' ≤ i) (hm : m + d' ≤ i) {g cap : Nat} {z : Int} {t : ByteArray}
    (hown : w'.ownsRow W0.heap.size 80 2 (.slice (some ⟨g, 0, none⟩) (n + 1) cap) (n + 1) (xs ++ [.int .i64 z, .string t])) (hg : w.grownBy w' sv.ownBlock) :
    PS F W0 pb tb s verb i d' (w'.setCell ⟨tb, 1, none⟩ (.slice (some ⟨g, 0, none⟩) (n + 1) cap)) := by
  have hne := h.ne
  obtain ⟨p1, p2⟩ := ht.far h.blk (by decide) (by decide)
  obtain ⟨t1, t2⟩ := ht.far ht.blk (by decide) (by decide)
  have hpb : w'.heap[pb]? = _ := (hg.block pb (heap_lt h.blk) (fun e => p1 e.symm)).trans h.blk
  have htb : w'.heap[tb]? = _ := (hg.block tb (heap_lt ht.blk) (fun e => t1 e.symm)).trans ht.blk
  have hvv : w'.ownsRow W0.heap.size 82 3 vv m ys := by
    refine ht.vo.kept hg ?_
    cases hv : vv.ownBlock with
    | none => exact .inl rfl
    | some b =>
      right
      intro e
      obtain ⟨c, fz, hc⟩ := Lib.ownsRow_kind ht.vo b hv
      obtain ⟨c', fz', hc'⟩ := Lib.ownsRow_kind ht.so b e.symm
      rw [hc] at hc'; simp at hc'
  have q1 : (Value.slice (some ⟨g, 0, none⟩) (n + 1) cap).ownBlock ≠ some tb := fun e => by
    obtain ⟨c, fz, hc⟩ := Lib.ownsRow_kind hown tb e
    rw [htb] at hc; simp at hc
  refine ⟨?_, ⟨_, vv, n + 1, m, _, ys, ⟨?_, ownsRow_setCell_other hown q1 _, ownsRow_setCell_other hvv t2 _, ht.segs.snoc ht.so.1 z t, ht.vars⟩, hn, hm⟩, h.hp, h.ht, h.le, h.sz, ?_, ?_⟩
  · rw [heap_setCell_other _ _ _ _ (by exact hne)]; exact hpb
  · rw [heap_setCell_same w' tb 1 _ _ _ htb]; rfl
  · refine Below.setCell (Below.grown h.bel hg h.bel.size fun k hk => (ht.so.lt k hk).1) h.ht _
  · show F.answers w'.tape
    rw [hg.tape]; exact h.ans

/-- Behind the append of a variable, and its store into the template. -/
theorem PS.appendedVar {sv vv : Value} {n m : Nat} {xs ys : List Value} (h : PS F W0 pb tb s verb i d w) (ht : TS W0.heap.size tb s verb sv vv n m xs ys w) {d' : Nat} (hn : n + d' ≤ i) (hm : m + 1 + d' ≤ i) {g cap : Nat} {p q : Int} {t : ByteArray}
    (hown : w'.ownsRow W0.heap.size 82 3 (.slice (some ⟨g, 0, none⟩) (m + 1) cap) (m + 1) (ys ++ [.string t, .int .i64 p, .int .i64 q])) (hg : w.grownBy w' vv.ownBlock) :
    PS F W0 pb tb s verb i d' (w'.setCell ⟨tb, 3, none⟩ (.slice (some ⟨g, 0, none⟩) (m + 1) cap)) := by
  have hne := h.ne
  obtain ⟨p1, p2⟩ := ht.far h.blk (by decide) (by decide)
  obtain ⟨t1, t2⟩ := ht.far ht.blk (by decide) (by decide)
  have hpb : w'.heap[pb]? = _ := (hg.block pb (heap_lt h.blk) (fun e => p2 e.symm)).trans h.blk
  have htb : w'.heap[tb]? = _ := (hg.block tb (heap_lt ht.blk) (fun e => t2 e.symm)).trans ht.blk
  have hsv : w'.ownsRow W0.heap.size 80 2 sv n xs := by
    refine ht.so.kept hg ?_
    cases hv : sv.ownBlock with
    | none => exact .inl rfl
    | some b =>
      right
      intro e
      obtain ⟨c, fz, hc⟩ := Lib.ownsRow_kind ht.so b hv
      obtain ⟨c', fz', hc'⟩ := Lib.ownsRow_kind ht.vo b e.symm
      rw [hc] at hc'; simp at hc'
  have q1 : (Value.slice (some ⟨g, 0, none⟩) (m + 1) cap).ownBlock ≠ some tb := fun e => by
    obtain ⟨c, fz, hc⟩ := Lib.ownsRow_kind hown tb e
    rw [htb] at hc; simp at hc
  refine ⟨?_, ⟨sv, _, n, m + 1, xs, _, ⟨?_, ownsRow_setCell_other hsv t1 _, ownsRow_setCell_other hown q1 _, ht.segs, ht.vars.snoc ht.vo.1 t p q⟩, hn, hm⟩, h.hp, h.ht, h.le, h.sz, ?_, ?_⟩
  · rw [heap_setCell_other _ _ _ _ (by exact hne)]; exact hpb
  · rw [heap_setCell_same w' tb 3 _ _ _ htb]; rfl
  · refine Below.setCell (Below.grown h.bel hg h.bel.size fun k hk => (ht.vo.lt k hk).1) h.ht _
  · show F.answers w'.tape
    rw [hg.tape]; exact h.ans

theorem grown_undrew {x : World} {row : Option Nat} (hg : x.drew.grownBy w' row) : x.grownBy w' row := ⟨hg.os, hg.tape, hg.output, hg.size, hg.block⟩

/-- The cells that are read and written behind the append, in its world. -/
theorem grown_cells {sv vv : Value} {n m : Nat} {xs ys : List Value} (h : PS F W0 pb tb s verb i d w) (ht : TS W0.heap.size tb s verb sv vv n m xs ys w) {row : Option Nat} (hr : row = sv.ownBlock ∨ row = vv.ownBlock) (o : Obj) (hg : (w.alloc o).grownBy w' row) :
    w'.cell? ⟨tb, 1, none⟩ = some sv ∧ w'.cell? ⟨tb, 3, none⟩ = some vv ∧ (∀ j, w'.frozen? ⟨tb, j, none⟩ = false) ∧ w'.cell? ⟨pb, 2, none⟩ = some (.pointer (some ⟨tb, 0, none⟩)) := by
  obtain ⟨p1, p2⟩ := ht.far h.blk (by decide) (by decide)
  obtain ⟨t1, t2⟩ := ht.far ht.blk (by decide) (by decide)
  have hb : Below w.heap.size w (w.alloc o) := (Below.refl _ _).alloc (Nat.le_refl _) o
  have hpb : w'.heap[pb]? = _ := (hg.block pb (Nat.lt_of_lt_of_le (heap_lt h.blk) hb.size) (fun e => by rcases hr with hr | hr <;> rw [hr] at e <;> first | exact p1 e.symm | exact p2 e.symm)).trans ((hb.block _ (heap_lt h.blk)).trans h.blk)
  have htb : w'.heap[tb]? = _ := (hg.block tb (Nat.lt_of_lt_of_le (heap_lt ht.blk) hb.size) (fun e => by rcases hr with hr | hr <;> rw [hr] at e <;> first | exact t1 e.symm | exact t2 e.symm)).trans ((hb.block _ (heap_lt ht.blk)).trans ht.blk)
  exact ⟨by rw [Lib.cell_of_heap htb]; rfl, by rw [Lib.cell_of_heap htb]; rfl, fun j => Lib.frozen_of_heap htb j, by rw [Lib.cell_of_heap hpb]; rfl⟩

theorem PS.seg_after {sv vv : Value} {n m : Nat} {xs ys : List Value} (h : PS F W0 pb tb s verb i d w) (ht : TS W0.heap.size tb s verb sv vv n m xs ys w) {d' : Nat} (hn : n + 1 + d' ≤ i) (hm : m + d' ≤ i) {g cap : Nat} {z : Int} {t : ByteArray} (o : Obj)
    (hown : w'.ownsRow W0.heap.size 80 2 (.slice (some ⟨g, 0, none⟩) (n + 1) cap) (n + 1) (xs ++ [.int .i64 z, .string t])) (hg : (w.alloc o).grownBy w' sv.ownBlock) :
    PS F W0 pb tb s verb i d' (w'.setCell ⟨tb, 1, none⟩ (.slice (some ⟨g, 0, none⟩) (n + 1) cap)) :=
  have hb : Below w.heap.size w (w.alloc o) := (Below.refl _ _).alloc (Nat.le_refl _) o
  (h.of_below hb).appendedSeg (ht.of_below hb) hn hm hown hg

theorem PS.var_after {sv vv : Value} {n m : Nat} {xs ys : List Value} (h : PS F W0 pb tb s verb i d w) (ht : TS W0.heap.size tb s verb sv vv n m xs ys w) {d' : Nat} (hn : n + d' ≤ i) (hm : m + 1 + d' ≤ i) {g cap : Nat} {p q : Int} {t : ByteArray} (o : Obj)
    (hown : w'.ownsRow W0.heap.size 82 3 (.slice (some ⟨g, 0, none⟩) (m + 1) cap) (m + 1) (ys ++ [.string t, .int .i64 p, .int .i64 q])) (hg : (w.alloc o).grownBy w' vv.ownBlock) :
    PS F W0 pb tb s verb i d' (w'.setCell ⟨tb, 3, none⟩ (.slice (some ⟨g, 0, none⟩) (m + 1) cap)) :=
  have hb : Below w.heap.size w (w.alloc o) := (Below.refl _ _).alloc (Nat.le_refl _) o
  (h.of_below hb).appendedVar (ht.of_below hb) hn hm hown hg

/-- The template's cells. -/
theorem TS.cells {sv vv : Value} {n m : Nat} {xs ys : List Value} {B : Nat} (ht : TS B tb s verb sv vv n m xs ys w) :
    w.cell? ⟨tb, 1, none⟩ = some sv ∧ w.cell? ⟨tb, 3, none⟩ = some vv ∧ w.cell? ⟨tb, 2, none⟩ = some (.string verb) ∧ (∀ j, w.frozen? ⟨tb, j, none⟩ = false) ∧ tb < w.heap.size :=
  ⟨by rw [Lib.cell_of_heap ht.blk]; rfl, by rw [Lib.cell_of_heap ht.blk]; rfl, by rw [Lib.cell_of_heap ht.blk]; rfl, fun j => Lib.frozen_of_heap ht.blk j, heap_lt ht.blk⟩
end
end Go.Proofs.Qxb6616097aFmt
