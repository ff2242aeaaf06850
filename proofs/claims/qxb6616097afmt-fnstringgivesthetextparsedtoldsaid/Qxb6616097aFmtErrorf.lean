import Derived.Test.Qxb6616097aFmtErrs
import Derived.Deep.RegionHeld3
namespace Go.Proofs.Qxb6616097aFmt
open Go.RowKit Go.Extern.Stop Go.Stop Go.Extern

theorem new_drew2 (w : World) (o : Obj) : (w.alloc o).drew.drew.heap[w.heap.size]? = some o := heap_alloc_new w o

/-- An error that is not nil; the state is kept. -/
def PSErr (F : Interp) (W0 : World) (pb tb : Nat) (s verb : ByteArray) (i d : Nat) (e : Ending) (w' : World) : Prop :=
  ∃ g, e = .returned (.iface 84 (.pointer (some ⟨g, 0, none⟩))) ∧ PS F W0 pb tb s verb i d w'

set_option maxRecDepth 20000 in
set_option maxHeartbeats 1000000 in
theorem errorf_emptyVerb0 (F : Interp) (pb : Nat) (i : Int) (w : World) (hF : F.answers w.tape) (hc : w.cell? ⟨pb, 1, none⟩ = some (.int .i64 i)) :
    Calls Tryf.prog 52 #[.pointer (some ⟨pb, 0, none⟩), .string ⟨#[101, 109, 112, 116, 121, 32, 118, 101, 114, 98]⟩, .slice none 0 0] w (ErrPost w) := by
  have hF' := answers_open hF
  have hlt := World.block_lt_of_cell? w _ hc
  go_enter Tryf.func52, Tryf.ntmps52
  go_wp2
  go_region_held3 (fun w' => w'.cell? ⟨pb, 1, none⟩ = some (.int .i64 i)) (first | go_keep | (rw [hb.cell (by simp; omega)]; go_keep))
    (first
      | (go_at_call 57; refine (errorf2 F i _ _ _ (by exact hF) (new_drew2 _ _)).mono ?_; rintro e w' ⟨g, rfl, hb⟩)
      | (go_simp; apply rows_value Tryf.nextTurns; case hr => (go_simp; exact ⟨rfl, rfl⟩)))
  go_wp2
  go_ret
  exact ⟨g, rfl, (((Below.refl _ w).alloc (Nat.le_refl _) _).drew.drew).trans (hb.mono (by simp))⟩

theorem errorf_emptyVerb {F : Interp} {W0 : World} {pb tb : Nat} {s verb : ByteArray} {i d : Nat} {w : World} (h : PS F W0 pb tb s verb i d w) :
    Calls Tryf.prog 52 #[.pointer (some ⟨pb, 0, none⟩), .string ⟨#[101, 109, 112, 116, 121, 32, 118, 101, 114, 98]⟩, .slice none 0 0] w (PSErr F W0 pb tb s verb i d) :=
  (errorf_emptyVerb0 F pb i w h.ans h.c1).mono fun _ _ ⟨g, he, hb⟩ => ⟨g, he, h.of_below hb⟩

set_option maxRecDepth 20000 in
set_option maxHeartbeats 1000000 in
theorem errorf_inVar0 (F : Interp) (pb : Nat) (i : Int) (w : World) (hF : F.answers w.tape) (hc : w.cell? ⟨pb, 1, none⟩ = some (.int .i64 i)) :
    Calls Tryf.prog 52 #[.pointer (some ⟨pb, 0, none⟩), .string ⟨#[118, 97, 114, 105, 97, 98, 108, 101, 32, 105, 110, 115, 105, 100, 101, 32, 97, 32, 118, 97, 114, 105, 97, 98, 108, 101]⟩, .slice none 0 0] w (ErrPost w) := by
  have hF' := answers_open hF
  have hlt := World.block_lt_of_cell? w _ hc
  go_enter Tryf.func52, Tryf.ntmps52
  go_wp2
  go_region_held3 (fun w' => w'.cell? ⟨pb, 1, none⟩ = some (.int .i64 i)) (first | go_keep | (rw [hb.cell (by simp; omega)]; go_keep))
    (first
      | (go_at_call 57; refine (errorf2 F i _ _ _ (by exact hF) (new_drew2 _ _)).mono ?_; rintro e w' ⟨g, rfl, hb⟩)
      | (go_simp; apply rows_value Tryf.nextTurns; case hr => (go_simp; exact ⟨rfl, rfl⟩)))
  go_wp2
  go_ret
  exact ⟨g, rfl, (((Below.refl _ w).alloc (Nat.le_refl _) _).drew.drew).trans (hb.mono (by simp))⟩

theorem errorf_inVar {F : Interp} {W0 : World} {pb tb : Nat} {s verb : ByteArray} {i d : Nat} {w : World} (h : PS F W0 pb tb s verb i d w) :
    Calls Tryf.prog 52 #[.pointer (some ⟨pb, 0, none⟩), .string ⟨#[118, 97, 114, 105, 97, 98, 108, 101, 32, 105, 110, 115, 105, 100, 101, 32, 97, 32, 118, 97, 114, 105, 97, 98, 108, 101]⟩, .slice none 0 0] w (PSErr F W0 pb tb s verb i d) :=
  (errorf_inVar0 F pb i w h.ans h.c1).mono fun _ _ ⟨g, he, hb⟩ => ⟨g, he, h.of_below hb⟩

set_option maxRecDepth 20000 in
set_option maxHeartbeats 1000000 in
theorem errorf_emptySeg0 (F : Interp) (pb : Nat) (i : Int) (w : World) (hF : F.answers w.tape) (hc : w.cell? ⟨pb, 1, none⟩ = some (.int .i64 i)) :
    Calls Tryf.prog 52 #[.pointer (some ⟨pb, 0, none⟩), .string ⟨#[101, 109, 112, 116, 121, 32, 115, 101, 103, 109, 101, 110, 116]⟩, .slice none 0 0] w (ErrPost w) := by
  have hF' := answers_open hF
  have hlt := World.block_lt_of_cell? w _ hc
  go_enter Tryf.func52, Tryf.ntmps52
  go_wp2
  go_region_held3 (fun w' => w'.cell? ⟨pb, 1, none⟩ = some (.int .i64 i)) (first | go_keep | (rw [hb.cell (by simp; omega)]; go_keep))
    (first
      | (go_at_call 57; refine (errorf2 F i _ _ _ (by exact hF) (new_drew2 _ _)).mono ?_; rintro e w' ⟨g, rfl, hb⟩)
      | (go_simp; apply rows_value Tryf.nextTurns; case hr => (go_simp; exact ⟨rfl, rfl⟩)))
  go_wp2
  go_ret
  exact ⟨g, rfl, (((Below.refl _ w).alloc (Nat.le_refl _) _).drew.drew).trans (hb.mono (by simp))⟩

theorem errorf_emptySeg {F : Interp} {W0 : World} {pb tb : Nat} {s verb : ByteArray} {i d : Nat} {w : World} (h : PS F W0 pb tb s verb i d w) :
    Calls Tryf.prog 52 #[.pointer (some ⟨pb, 0, none⟩), .string ⟨#[101, 109, 112, 116, 121, 32, 115, 101, 103, 109, 101, 110, 116]⟩, .slice none 0 0] w (PSErr F W0 pb tb s verb i d) :=
  (errorf_emptySeg0 F pb i w h.ans h.c1).mono fun _ _ ⟨g, he, hb⟩ => ⟨g, he, h.of_below hb⟩

set_option maxRecDepth 20000 in
set_option maxHeartbeats 1000000 in
theorem errorf_noName0 (F : Interp) (pb : Nat) (i : Int) (w : World) (hF : F.answers w.tape) (hc : w.cell? ⟨pb, 1, none⟩ = some (.int .i64 i)) :
    Calls Tryf.prog 52 #[.pointer (some ⟨pb, 0, none⟩), .string ⟨#[101, 120, 112, 101, 99, 116, 101, 100, 32, 97, 32, 102, 105, 101, 108, 100, 32, 110, 97, 109, 101]⟩, .slice none 0 0] w (ErrPost w) := by
  have hF' := answers_open hF
  have hlt := World.block_lt_of_cell? w _ hc
  go_enter Tryf.func52, Tryf.ntmps52
  go_wp2
  go_region_held3 (fun w' => w'.cell? ⟨pb, 1, none⟩ = some (.int .i64 i)) (first | go_keep | (rw [hb.cell (by simp; omega)]; go_keep))
    (first
      | (go_at_call 57; refine (errorf2 F i _ _ _ (by exact hF) (new_drew2 _ _)).mono ?_; rintro e w' ⟨g, rfl, hb⟩)
      | (go_simp; apply rows_value Tryf.nextTurns; case hr => (go_simp; exact ⟨rfl, rfl⟩)))
  go_wp2
  go_ret
  exact ⟨g, rfl, (((Below.refl _ w).alloc (Nat.le_refl _) _).drew.drew).trans (hb.mono (by simp))⟩

theorem errorf_noName {F : Interp} {W0 : World} {pb tb : Nat} {s verb : ByteArray} {i d : Nat} {w : World} (h : PS F W0 pb tb s verb i d w) :
    Calls Tryf.prog 52 #[.pointer (some ⟨pb, 0, none⟩), .string ⟨#[101, 120, 112, 101, 99, 116, 101, 100, 32, 97, 32, 102, 105, 101, 108, 100, 32, 110, 97, 109, 101]⟩, .slice none 0 0] w (PSErr F W0 pb tb s verb i d) :=
  (errorf_noName0 F pb i w h.ans h.c1).mono fun _ _ ⟨g, he, hb⟩ => ⟨g, he, h.of_below hb⟩

set_option maxRecDepth 20000 in
set_option maxHeartbeats 1000000 in
theorem errorf_unexpected0 (F : Interp) (pb : Nat) (i : Int) (w : World) (hF : F.answers w.tape) (hc : w.cell? ⟨pb, 1, none⟩ = some (.int .i64 i)) (x : Int) (blk : Nat) (hbk : w.heap[blk]? = some (.cells #[.iface 5 (.int .u8 x)] 20 (0, 0))) :
    Calls Tryf.prog 52 #[.pointer (some ⟨pb, 0, none⟩), .string ⟨#[117, 110, 101, 120, 112, 101, 99, 116, 101, 100, 32, 37, 113]⟩, .slice (some ⟨blk, 0, none⟩) 1 1] w (ErrPost w) := by
  have hk0 : w.cell? ⟨blk, 0, none⟩ = some (.iface 5 (.int .u8 x)) := by rw [Lib.cell_of_heap hbk]; rfl
  clear hbk
  have hF' := answers_open hF
  have hlt := World.block_lt_of_cell? w _ hc
  go_enter Tryf.func52, Tryf.ntmps52
  go_wp2
  go_region_held3 (fun w' => w'.cell? ⟨pb, 1, none⟩ = some (.int .i64 i)) (first | go_keep | (rw [hb.cell (by simp; omega)]; go_keep))
    (first
      | (go_at_call 57; refine (errorf2 F i _ _ _ (by exact hF) (new_drew2 _ _)).mono ?_; rintro e w' ⟨g, rfl, hb⟩)
      | (go_simp; apply rows_value Tryf.nextTurns; case hr => (go_simp; exact ⟨rfl, rfl⟩)))
  go_wp2
  go_ret
  exact ⟨g, rfl, (((Below.refl _ w).alloc (Nat.le_refl _) _).drew.drew).trans (hb.mono (by simp))⟩

theorem errorf_unexpected {F : Interp} {W0 : World} {pb tb : Nat} {s verb : ByteArray} {i d : Nat} {w : World} (h : PS F W0 pb tb s verb i d w) (x : Int) (blk : Nat) (hbk : w.heap[blk]? = some (.cells #[.iface 5 (.int .u8 x)] 20 (0, 0))) :
    Calls Tryf.prog 52 #[.pointer (some ⟨pb, 0, none⟩), .string ⟨#[117, 110, 101, 120, 112, 101, 99, 116, 101, 100, 32, 37, 113]⟩, .slice (some ⟨blk, 0, none⟩) 1 1] w (PSErr F W0 pb tb s verb i d) :=
  (errorf_unexpected0 F pb i w h.ans h.c1 x blk hbk).mono fun _ _ ⟨g, he, hb⟩ => ⟨g, he, h.of_below hb⟩

set_option maxRecDepth 20000 in
set_option maxHeartbeats 1000000 in
theorem errorf_notClosed0 (F : Interp) (pb : Nat) (i : Int) (w : World) (hF : F.answers w.tape) (hc : w.cell? ⟨pb, 1, none⟩ = some (.int .i64 i)) (x : ByteArray) (blk : Nat) (hbk : w.heap[blk]? = some (.cells #[.iface 9 (.string x)] 20 (0, 0))) :
    Calls Tryf.prog 52 #[.pointer (some ⟨pb, 0, none⟩), .string ⟨#[118, 97, 114, 105, 97, 98, 108, 101, 32, 37, 115, 32, 105, 115, 32, 110, 111, 116, 32, 99, 108, 111, 115, 101, 100, 32, 98, 121, 32, 34, 125, 34]⟩, .slice (some ⟨blk, 0, none⟩) 1 1] w (ErrPost w) := by
  have hk0 : w.cell? ⟨blk, 0, none⟩ = some (.iface 9 (.string x)) := by rw [Lib.cell_of_heap hbk]; rfl
  clear hbk
  have hF' := answers_open hF
  have hlt := World.block_lt_of_cell? w _ hc
  go_enter Tryf.func52, Tryf.ntmps52
  go_wp2
  go_region_held3 (fun w' => w'.cell? ⟨pb, 1, none⟩ = some (.int .i64 i)) (first | go_keep | (rw [hb.cell (by simp; omega)]; go_keep))
    (first
      | (go_at_call 57; refine (errorf2 F i _ _ _ (by exact hF) (new_drew2 _ _)).mono ?_; rintro e w' ⟨g, rfl, hb⟩)
      | (go_simp; apply rows_value Tryf.nextTurns; case hr => (go_simp; exact ⟨rfl, rfl⟩)))
  go_wp2
  go_ret
  exact ⟨g, rfl, (((Below.refl _ w).alloc (Nat.le_refl _) _).drew.drew).trans (hb.mono (by simp))⟩

theorem errorf_notClosed {F : Interp} {W0 : World} {pb tb : Nat} {s verb : ByteArray} {i d : Nat} {w : World} (h : PS F W0 pb tb s verb i d w) (x : ByteArray) (blk : Nat) (hbk : w.heap[blk]? = some (.cells #[.iface 9 (.string x)] 20 (0, 0))) :
    Calls Tryf.prog 52 #[.pointer (some ⟨pb, 0, none⟩), .string ⟨#[118, 97, 114, 105, 97, 98, 108, 101, 32, 37, 115, 32, 105, 115, 32, 110, 111, 116, 32, 99, 108, 111, 115, 101, 100, 32, 98, 121, 32, 34, 125, 34]⟩, .slice (some ⟨blk, 0, none⟩) 1 1] w (PSErr F W0 pb tb s verb i d) :=
  (errorf_notClosed0 F pb i w h.ans h.c1 x blk hbk).mono fun _ _ ⟨g, he, hb⟩ => ⟨g, he, h.of_below hb⟩

/-- The four messages without operands. -/
def plainMsg (f : ByteArray) : Prop := f = ⟨#[101, 109, 112, 116, 121, 32, 118, 101, 114, 98]⟩ ∨ f = ⟨#[118, 97, 114, 105, 97, 98, 108, 101, 32, 105, 110, 115, 105, 100, 101, 32, 97, 32, 118, 97, 114, 105, 97, 98, 108, 101]⟩ ∨ f = ⟨#[101, 109, 112, 116, 121, 32, 115, 101, 103, 109, 101, 110, 116]⟩ ∨ f = ⟨#[101, 120, 112, 101, 99, 116, 101, 100, 32, 97, 32, 102, 105, 101, 108, 100, 32, 110, 97, 109, 101]⟩
theorem errorf_plain {F : Interp} {W0 : World} {pb tb : Nat} {s verb : ByteArray} {i d : Nat} {w : World} (f : ByteArray) (hf : plainMsg f) (h : PS F W0 pb tb s verb i d w) :
    Calls Tryf.prog 52 #[.pointer (some ⟨pb, 0, none⟩), .string f, .slice none 0 0] w (PSErr F W0 pb tb s verb i d) := by
  rcases hf with rfl | rfl | rfl | rfl
  · exact errorf_emptyVerb h
  · exact errorf_inVar h
  · exact errorf_emptySeg h
  · exact errorf_noName h

end Go.Proofs.Qxb6616097aFmt
