import Derived.Test.Qxb6616082aFmtRunes
namespace Go.Proofs.Qxb6616082aFmt
open Go.RowKit Go.Extern.Stop Go.Stop Go.Extern

def AnyPost (x : ByteArray) (w : World) (e : Ending) (w' : World) : Prop := ∃ z : Int, e = .returned (.int .i64 z) ∧ (0 ≤ z ↔ blankB x = true) ∧ Below w.heap.size w w'

theorem setIter_below {B k : Nat} {a w : World} (h : Below B a w) (hk : B ≤ k) (s : ByteArray) (p : Nat) : Below B a (setIter w k s p) :=
  ⟨h.os, h.tape, h.output, by simpa [setIter] using h.size, fun i hi => by
    rw [← h.block i hi]
    simp only [setIter]
    rw [Array.getElem?_setIfInBounds_ne (by omega)]⟩

theorem setIter_at {w : World} {k : Nat} {s : ByteArray} {p q : Nat} (h : w.heap[k]? = some (.stringIter s p)) : (setIter w k s q).heap[k]? = some (.stringIter s q) := by
  simp only [setIter]
  rw [Array.getElem?_setIfInBounds_self_of_lt (Array.getElem?_eq_some_iff.1 h).1]

theorem Tryf.info93 : (Tryf.prog.info? 93).map (fun i => (i.zero, i.size)) = some (some (.agg (Array.replicate 256 (.bool false))), 256) := by kernel_rfl

theorem contains_blank (b : UInt8) : ([32, 10] : List UInt8).contains b = (b == 32 || b == 10) := by
  simp only [List.contains, List.elem]
  cases b == 32 <;> cases b == 10 <;> rfl

theorem indexAny_blank : ∀ l : List UInt8, 0 ≤ Lib.indexAny l [32, 10] ↔ (l.any fun c => c == 32 || c == 10) = true
  | [] => by simp [Lib.indexAny]
  | b :: l => by
    have ih := indexAny_blank l
    have hg := Lib.indexAny_ge [32, 10] l
    rw [Lib.indexAny, contains_blank, List.any_cons]
    cases hb : (b == 32 || b == 10) with
    | true => simp
    | false =>
      simp only [Bool.false_or, Bool.false_eq_true, if_false]
      rw [← ih]
      split
      · rename_i h
        have := beq_iff_eq.1 h
        omega
      · rename_i h
        have : Lib.indexAny l [32, 10] ≠ -1 := fun e => h (beq_iff_eq.2 e)
        omega

theorem any_long (name : ByteArray) (w : World) (h8 : 8 < name.size) (hs : name.size ≤ 1048576) : Calls Tryf.prog 43 #[.string name, .string ⟨#[32, 10]⟩] w (AnyPost name w) := by
  refine (Tryf.strings_IndexAny_long (zero_of_info Tryf.info93).1 name ⟨#[32, 10]⟩ w (by decide) h8 (by omega) (by decide) ?_).mono ?_
  · intro j b hj
    rcases j with _ | _ | j
    · simp at hj; subst hj; decide
    · simp at hj; subst hj; decide
    · simp at hj
  · rintro e w' ⟨rfl, rfl⟩
    refine ⟨_, rfl, ?_, ((Below.refl _ _).alloc (Nat.le_refl _) _).alloc (by simp) _⟩
    exact indexAny_blank _

set_option maxRecDepth 20000 in
set_option maxHeartbeats 1000000 in
theorem any_short (name : ByteArray) (w : World) (h8 : name.size ≤ 8) : Calls Tryf.prog 43 #[.string name, .string ⟨#[32, 10]⟩] w (AnyPost name w) := by
  have h8' : ¬ (8 : Int) < (name.size : Int) := by omega
  go_enter Tryf.func43, Tryf.ntmps43
  go_wp2_with (first | (go_at_call 55; refine (Tryf.strings_shouldUseASCIISet _ _).mono ?_; rintro e w1 ⟨rfl, rfl⟩))
  go_loopw [9, 10] (fun _ _ wr => Hid (∃ p, wr.heap[w1.heap.size]? = some (.stringIter name p) ∧ Clean name p ∧ Below w1.heap.size w1 wr)) (fun _ _ wr => name.size - wr.iterPos w1.heap.size)
  case atStart => exact ⟨0, World.iter_heap _ _ _, fun j hj => by omega, (Below.refl _ _).alloc (Nat.le_refl _) _⟩
  case round =>
    obtain ⟨p, hk, hcl, hbel⟩ := hrel.out
    have HC : Hid (Clean name p) := hcl
    have HB : Hid (Below w1.heap.size w1 wr) := hbel
    have HK : Hid (wr.heap[w1.heap.size]? = some (.stringIter name p)) := hk
    clear hcl hbel hrel hk
    by_cases hp : p < name.size
    · have hnx := fun t => run_next_at (P := Tryf.prog) wr w1.heap.size name p t HK.out hp
      have HW : Hid (Below w1.heap.size w1 (setIter wr w1.heap.size name (p + (Utf8.decode name p).2))) := setIter_below HB.out (Nat.le_refl _) _ _
      have HI : Hid ((setIter wr w1.heap.size name (p + (Utf8.decode name p).2)).heap[w1.heap.size]? = some (.stringIter name (p + (Utf8.decode name p).2))) := setIter_at HK.out
      have HS : Hid (¬ (((Utf8.decode name p).1 : Int) = 32 ∨ ((Utf8.decode name p).1 : Int) = 10) → Clean name (p + (Utf8.decode name p).2)) := HC.out.step hp
      have HH : Hid ((((Utf8.decode name p).1 : Int) = 32 ∨ ((Utf8.decode name p).1 : Int) = 10) → blankB name = true) := hit_blank hp
      have hpos : 1 ≤ (Utf8.decode name p).2 := by
        by_cases ha : (name[p]'hp).toNat < 128
        · rw [decode_ascii name p hp ha]; exact Nat.le_refl _
        · exact (decode_high name p hp (by omega)).2
      generalize setIter wr w1.heap.size name (p + (Utf8.decode name p).2) = wn at hnx HW HI
      generalize Utf8.decode name p = dd at hnx HI HS HH hpos
      obtain ⟨r, wd⟩ := dd
      have HN : Hid (∀ w, Calls Tryf.prog 54 #[.string ⟨#[32, 10]⟩, .int .i32 (r : Int)] w (IdxPost r w)) := fun w => indexRune r w (by omega)
      go_wp2_with (first | (go_at_call 54; refine (HN.out _).mono ?_; rintro e w2 ⟨z, rfl, hz, hb2⟩))
      · go_ret
        refine ⟨p, rfl, ?_, HW.out.trans (hb2.mono HW.out.size)⟩
        rw [HH.out ‹_›]
        simp
      · have h1 : w1.heap.size < wn.heap.size := (Array.getElem?_eq_some_iff.1 HI.out).1
        have h2 : w2.heap[w1.heap.size]? = some (.stringIter name (p + wd)) := (hb2.block _ h1).trans HI.out
        refine ⟨⟨p + wd, h2, HS.out (fun h => ?_), HW.out.trans (hb2.mono HW.out.size)⟩, ?_⟩
        · have hh := ‹¬ (r : Int) = 32 ∧ ¬ (r : Int) = 10›
          rcases h with h | h
          · exact hh.1 h
          · exact hh.2 h
        · have e1 : w2.iterPos w1.heap.size = p + wd := by simp [World.iterPos, h2]
          have e2 : wr.iterPos w1.heap.size = p := by have := HK.out; simp [World.iterPos, this]
          rw [e1, e2]
          omega
    · have hnx := fun t => run_next_at_end (P := Tryf.prog) wr w1.heap.size name p t HK.out hp
      go_wp2
      go_ret
      exact ⟨-1, rfl, by rw [HC.out.all (by omega)]; simp, HB.out⟩

set_option maxRecDepth 20000 in
theorem containsAny (name : ByteArray) (w : World) (hs : name.size ≤ 1048576) : Calls Tryf.prog 35 #[.string name, .string ⟨#[32, 10]⟩] w (BoolPost w (blankB name)) := by
  have HN : Hid (Calls Tryf.prog 43 #[.string name, .string ⟨#[32, 10]⟩] w (AnyPost name w)) := by
    by_cases h8 : name.size ≤ 8
    · exact any_short name w h8
    · exact any_long name w (by omega) hs
  go_enter Tryf.func35, Tryf.ntmps35
  go_wp2_with (first | (go_at_call 43; refine HN.out.mono ?_; rintro e w1 ⟨z, rfl, hz, HB⟩))
  go_ret
  exact ⟨by simp, HB⟩
end Go.Proofs.Qxb6616082aFmt
