/-
  strings.Builder: copyCheck, WriteString and String AT A BUILDER OF THE CALL's OWN, WITH THE EXACT FRAME: which blocks may have turned.
  (After the shelf's own walks, Derived/Shelf/Strings/Builder1.lean; there 'Below B' alone is said.)
-/
import Derived.Test.Qxb6615940aBytes
import Derived.Test.Qxb6615940aShelf
import Derived.RegionTactic
namespace Go.Proofs.Qxb6615940a
open Go.RowKit

theorem Try.info5 : (Try.prog.info? 5).map (fun i => (i.zero, i.size, i.bytes)) = some (some (.int .u8 0), 1, 1) := by kernel_rfl
theorem Try.size58 : (Try.prog.info? 58).map (·.size) = some 2 := by kernel_rfl
theorem Try.lies58 : liesAt Try.prog Try.prog.depth 58 (2 / Try.prog.cellsOf 58) 0 58 1 = true := by kernel_rfl
theorem Try.cells5 : Try.prog.cellsOf 5 = 1 := by kernel_rfl

theorem grownBy_setCell (w : World) (a : Addr) (v : Value) : w.grownBy (w.setCell a v) (some a.block) :=
  ⟨rfl, rfl, rfl, by simp [World.setCell], fun k _ hk => Below.heap_setCell _ _ _ _ (fun e => hk (by rw [e]))⟩

theorem grownBy_refl (w : World) (r : Option Nat) : w.grownBy w r := ⟨rfl, rfl, rfl, Nat.le_refl _, fun _ _ _ => rfl⟩
theorem grownBy_drew (w : World) (r : Option Nat) : w.grownBy w.drew r := ⟨rfl, rfl, rfl, Nat.le_refl _, fun _ _ _ => rfl⟩

theorem grownBy_freeze (w : World) (p : Addr) (n : Nat) : w.grownBy (w.freeze p n) (some p.block) := by
  unfold World.freeze
  split
  · exact grownBy_refl _ _
  · exact ⟨rfl, rfl, rfl, by simp, fun k _ hk => by
      simp only [Array.getElem?_modify]
      rw [if_neg (fun e => hk (by rw [e]))]⟩

/-- A builder's two cells. -/
def BAt (w : World) (b : Nat) (p v : Value) : Prop := w.heap[b]? = some (.cells #[p, v] 58 (0, 0))

set_option maxRecDepth 100000 in
set_option maxHeartbeats 1000000 in
theorem copyCheck (b : Nat) (p v : Value) (w : World) (h : BAt w b p v) (hp : p = .pointer none ∨ p = .pointer (some ⟨b, 0, none⟩)) :
    Calls Try.prog 18 #[.pointer (some ⟨b, 0, none⟩)] w fun e w' => e = .returned (.tuple #[]) ∧ BAt w' b (.pointer (some ⟨b, 0, none⟩)) v ∧ w.grownBy w' (some b) := by
  obtain ⟨j, hj, hjs⟩ := Option.map_eq_some_iff.1 Try.size58
  have c0 : w.cell? ⟨b, 0, none⟩ = some p := by rw [Lib.cell_of_heap h]; rfl
  have f0 : w.frozen? ⟨b, 0, none⟩ = false := Lib.frozen_of_heap h 0
  have hsh : w.shape? b = some (58, 2) := by have h2 : w.heap[b]? = some (.cells #[p, v] 58 (0, 0)) := h; simp [World.shape?, h2]
  rcases hp with rfl | rfl
  · go_enter Try.func18, Try.ntmps18
    go_wp2
    rw [Lib.run_to_unsafe w ⟨b, 0, none⟩ Try.underlying56 Try.underlying66 hj (by rw [hjs]; decide) hsh (Nat.zero_lt_succ 1)]
    simp only [Result.andThen]
    rw [Oper.upon_value]
    go_wp2
    rw [run_callFunc_extern Try.func20 (by kernel_rfl) (by kernel_rfl) (by kernel_rfl) (e := Extern.AbiNoEscape.same) (by kernel_rfl)]
    rw [Lib.run_noEscape]
    simp only [Result.andThen]
    rw [Oper.upon_value]
    go_wp2
    rw [Lib.run_from_unsafe w ⟨b, 0, none⟩ Try.underlying66 Try.underlying56 hj hsh Try.lies58]
    simp only [Result.andThen]
    rw [Oper.upon_value]
    go_wp2
    go_end0
    refine ⟨rfl, ?_, grownBy_setCell _ _ _⟩
    unfold BAt at h ⊢
    simp [World.setCell, Array.getElem?_modify, h]
  · go_enter Try.func18, Try.ntmps18
    go_wp2
    rw [Lib.run_neq_ptr_same w _ Try.underlying56 hj]
    go_wp2
    go_end0
    exact ⟨rfl, h, grownBy_refl _ _⟩

set_option maxRecDepth 100000 in
set_option maxHeartbeats 2000000 in
theorem writeString (B b : Nat) (p v : Value) (bs : List Value) (s : ByteArray) (w : World) (h : BAt w b p v) (hp : p = .pointer none ∨ p = .pointer (some ⟨b, 0, none⟩)) (hown : w.ownsRow B 5 1 v bs.length bs)
    (hlen : bs.length + s.size ≤ 140737488355328) (hBw : B ≤ w.heap.size) :
    Calls Try.prog 14 #[.pointer (some ⟨b, 0, none⟩), .string s] w fun e w' => e = .returned (.tuple #[.int .i64 s.size, .nilIface]) ∧
      ∃ v' w1 w2, w.grownBy w1 (some b) ∧ w1.grownBy w2 v.ownBlock ∧ w2.grownBy w' (some b) ∧ BAt w' b (.pointer (some ⟨b, 0, none⟩)) v' ∧ w'.ownsRow B 5 1 v' (bs ++ Lib.strCells s).length (bs ++ Lib.strCells s) := by
  obtain ⟨i0, hi, hz0, hz1, hz2⟩ := info_parts Try.info5
  have hne : v.ownBlock ≠ some b := Lib.ownBlock_ne hown h (by decide)
  have H : Hid (BAt w b p v) := h
  clear h
  go_enter Try.func14, Try.ntmps14
  go_wp2_with (go_at_call 18; refine (copyCheck b p v _ H.out hp).mono ?_)
  rintro e w1 ⟨rfl, h1, hg1⟩
  have hown1 : w1.ownsRow B 5 1 v bs.length bs := hown.kept hg1 (.inr hne)
  have c0 : w1.cell? ⟨b, 0, none⟩ = some (.pointer (some ⟨b, 0, none⟩)) := by rw [Lib.cell_of_heap h1]; rfl
  have c1 : w1.cell? ⟨b, 1, none⟩ = some v := by rw [Lib.cell_of_heap h1]; rfl
  have hs1 := hg1.size
  go_wp2_with (at_builtin; refine Lib.wpList_append_own_string _ rfl _ _ 33 9 rfl B 5 i0 Try.underlying33 Try.underlying9 hi hz0 hz1 hz2 _ _ _ rfl hown1 s rfl ?c3 ?c4 ?c5 ?_)
  case c3 => unfold maxLen; omega
  case c4 => omega
  case c5 => omega
  intro v' w2 hown' hgrow _
  have hlt : b < w1.heap.size := lt_of_block h1
  have hb2 : w2.heap[b]? = some (.cells #[.pointer (some ⟨b, 0, none⟩), v] 58 (0, 0)) := by
    rw [hgrow.block b hlt (fun e => hne e.symm)]
    exact h1
  have d0 : w2.cell? ⟨b, 0, none⟩ = some (.pointer (some ⟨b, 0, none⟩)) := by rw [Lib.cell_of_heap hb2]; rfl
  have d1 : w2.cell? ⟨b, 1, none⟩ = some v := by rw [Lib.cell_of_heap hb2]; rfl
  have f1 : w2.frozen? ⟨b, 1, none⟩ = false := Lib.frozen_of_heap hb2 1
  obtain ⟨ao, n', cap, rfl⟩ : ∃ ao n' cap, v' = .slice ao n' cap := by
    rcases hown'.2 with ⟨hv, _⟩ | ⟨g, cap, cur, hv, _⟩
    · exact ⟨_, _, _, hv⟩
    · exact ⟨_, _, _, hv⟩
  have H2 : Hid (w2.heap[b]? = some (.cells #[.pointer (some ⟨b, 0, none⟩), v] 58 (0, 0))) := hb2
  clear hb2
  go_wp2
  go_ret2
  refine ⟨rfl, .slice ao n' cap, w1, w2, hg1, hgrow, grownBy_setCell _ _ _, ?_, ?_⟩
  · have hb := H2.out
    unfold BAt
    simp [World.setCell, Array.getElem?_modify, hb]
  · have hk := hown'.kept (grownBy_setCell w2 ⟨b, 1, none⟩ (.slice ao n' cap)) (.inr (Lib.ownBlock_ne hown' H2.out (by decide)))
    simpa [Lib.strCells_length] using hk

set_option maxRecDepth 100000 in
set_option maxHeartbeats 2000000 in
theorem builderString (B b : Nat) (p v : Value) (l : List UInt8) (w : World) (h : BAt w b p v) (hown : w.ownsRow B 5 1 v (Lib.byteCells l).length (Lib.byteCells l)) (h0 : l ≠ []) :
    Calls Try.prog 15 #[.pointer (some ⟨b, 0, none⟩)] w fun e w' => e = .returned (.string ⟨l.toArray⟩) ∧ w.grownBy w' v.ownBlock := by
  have hl0 : l.length ≠ 0 := by simpa using h0
  rw [Lib.byteCells_length] at hown
  obtain ⟨g, cap, cur, rfl, hbg, hg, hnc, hcm, hcs, htake⟩ : ∃ g cap cur, v = .slice (some ⟨g, 0, none⟩) l.length cap ∧ B ≤ g ∧ w.heap[g]? = some (.cells cur 5 (0, 0)) ∧ l.length ≤ cap ∧ cap ≤ maxLen ∧ cur.size = cap * 1 ∧ cur.toList.take (l.length * 1) = Lib.byteCells l := by
    rcases hown.2 with ⟨_, hz⟩ | ⟨g, cap, cur, hv, r⟩
    · exact absurd hz hl0
    · exact ⟨g, cap, cur, hv, r⟩
  have c1 : w.drew.cell? ⟨b, 1, none⟩ = some (.slice (some ⟨g, 0, none⟩) l.length cap) := by
    have : w.drew.heap[b]? = some (.cells #[p, .slice (some ⟨g, 0, none⟩) l.length cap] 58 (0, 0)) := h
    rw [Lib.cell_of_heap this]; rfl
  have hSD : (Builtin.unsafeSliceData_ #[33] 65 #[.slice (some ⟨g, 0, none⟩) l.length cap]).run Try.prog w.drew = .ok (.pointer (some ⟨g, 0, none⟩)) w.drew :=
    Lib.run_unsafeSliceData_row _ _ _ _ _ _ (by omega)
  have hUS : (Builtin.unsafeString_ #[65, 3] 9 #[.pointer (some ⟨g, 0, none⟩), .int .i64 l.length]).run Try.prog w.drew = .ok (.string ⟨l.toArray⟩) (w.drew.freeze ⟨g, 0, none⟩ l.length) := by
    refine Lib.run_unsafeString_row w.drew 65 3 9 5 Try.underlying65 Try.cells5 g cur.size (by have hg' : w.drew.heap[g]? = some (.cells cur 5 (0, 0)) := hg; simp [World.shape?, hg']) l h0 (by omega) (by unfold maxLen at hcm; omega) ?_
    intro j x hx
    have := hown.cells (g := g) rfl j (.int .u8 x.toNat) (by simp [Lib.byteCells, hx])
    exact this
  go_enter Try.func15, Try.ntmps15
  go_wp2
  go_region
  all_goals (go_wp2; go_ret; exact ⟨rfl, (grownBy_drew w _).trans (grownBy_freeze w.drew ⟨g, 0, none⟩ l.length)⟩)

set_option maxRecDepth 100000 in
set_option maxHeartbeats 2000000 in
theorem builderStringNil (b : Nat) (p : Value) (w : World) (h : BAt w b p (.slice none 0 0)) :
    Calls Try.prog 15 #[.pointer (some ⟨b, 0, none⟩)] w fun e w' => e = .returned (.string ⟨#[]⟩) ∧ w.grownBy w' none := by
  have hUS := fun (W : World) (q : Option Addr) => Lib.run_unsafeString_none (P := Try.prog) W 65 3 9 q
  have c1 : w.drew.cell? ⟨b, 1, none⟩ = some (.slice none 0 0) := by
    have : w.drew.heap[b]? = some (.cells #[p, .slice none 0 0] 58 (0, 0)) := h
    rw [Lib.cell_of_heap this]; rfl
  have hSD : (Builtin.unsafeSliceData_ #[33] 65 #[.slice none 0 0]).run Try.prog w.drew = .ok (.pointer none) w.drew := rfl
  go_enter Try.func15, Try.ntmps15
  go_wp2
  go_region
  all_goals (go_wp2; go_ret; exact ⟨rfl, grownBy_drew w _⟩)

end Go.Proofs.Qxb6615940a
