import Derived.Test.Qxb6616082aFmtGuards
namespace Go.Proofs.Qxb6616082aFmt
open Go.RowKit Go.Extern.Stop Go.Stop Go.Extern

/-- An error that is not nil, of errors.New's make; what was there is as it was. -/
def ErrPost (w : World) (e : Ending) (w' : World) : Prop := ∃ g, e = .returned (.iface 80 (.pointer (some ⟨g, 0, none⟩))) ∧ Below w.heap.size w w'
def StrPost (w : World) (e : Ending) (w' : World) : Prop := ∃ s, e = .returned (.string s) ∧ Below w.heap.size w w'

set_option maxRecDepth 20000 in
set_option maxHeartbeats 1000000 in
theorem errorf_size (F : Interp) (x : Int) (blk : Nat) (w : World) (hF : F.answers w.tape) (hb : w.heap[blk]? = some (.cells #[.iface 3 (.int .i64 x), .iface 3 (.int .i64 1048576)] 20 (0, 0))) :
    Calls Tryf.prog 24 #[.string ⟨#[114, 101, 113, 117, 101, 115, 116, 32, 111, 102, 32, 37, 100, 32, 98, 121, 116, 101, 115, 44, 32, 97, 98, 111, 118, 101, 32, 77, 97, 120, 82, 101, 113, 117, 101, 115, 116, 66, 121, 116, 101, 115, 44, 32, 37, 100]⟩, .slice (some ⟨blk, 0, none⟩) 2 2] w (ErrPost w) := by
  have hc0 : w.cell? ⟨blk, 0, none⟩ = some (.iface 3 (.int .i64 x)) := by rw [Lib.cell_of_heap hb]; rfl
  have hc1 : w.cell? ⟨blk, 1, none⟩ = some (.iface 3 (.int .i64 1048576)) := by rw [Lib.cell_of_heap hb]; rfl
  clear hb
  have hF' := answers_open hF
  go_enter Tryf.func24, Tryf.ntmps24
  go_wp2_with (first | (go_simp; apply rows_value Tryf.nextTurns; case hr => (go_simp; exact ⟨rfl, rfl⟩)))
  go_ret
  exact ⟨_, rfl, ((Below.refl _ _).alloc (Nat.le_refl _) _).drew⟩

set_option maxRecDepth 20000 in
set_option maxHeartbeats 1000000 in
theorem errorf_unknown (F : Interp) (s : ByteArray) (blk : Nat) (w : World) (hF : F.answers w.tape) (hb : w.heap[blk]? = some (.cells #[.iface 9 (.string s)] 20 (0, 0))) :
    Calls Tryf.prog 24 #[.string ⟨#[117, 110, 107, 110, 111, 119, 110, 32, 112, 114, 111, 99, 101, 100, 117, 114, 101, 32, 37, 113]⟩, .slice (some ⟨blk, 0, none⟩) 1 1] w (ErrPost w) := by
  have hc0 : w.cell? ⟨blk, 0, none⟩ = some (.iface 9 (.string s)) := by rw [Lib.cell_of_heap hb]; rfl
  clear hb
  have hF' := answers_open hF
  go_enter Tryf.func24, Tryf.ntmps24
  go_wp2_with (first | (go_simp; apply rows_value Tryf.nextTurns; case hr => (go_simp; exact ⟨rfl, rfl⟩)))
  go_ret
  exact ⟨_, rfl, ((Below.refl _ _).alloc (Nat.le_refl _) _).drew⟩

set_option maxRecDepth 20000 in
set_option maxHeartbeats 1000000 in
theorem errorf_takes (F : Interp) (s t : ByteArray) (x : Int) (blk : Nat) (w : World) (hF : F.answers w.tape) (hb : w.heap[blk]? = some (.cells #[.iface 9 (.string s), .iface 9 (.string t), .iface 3 (.int .i64 x)] 20 (0, 0))) :
    Calls Tryf.prog 24 #[.string ⟨#[37, 115, 32, 116, 97, 107, 101, 115, 32, 37, 115, 44, 32, 103, 111, 116, 32, 37, 100]⟩, .slice (some ⟨blk, 0, none⟩) 3 3] w (ErrPost w) := by
  have hc0 : w.cell? ⟨blk, 0, none⟩ = some (.iface 9 (.string s)) := by rw [Lib.cell_of_heap hb]; rfl
  have hc1 : w.cell? ⟨blk, 1, none⟩ = some (.iface 9 (.string t)) := by rw [Lib.cell_of_heap hb]; rfl
  have hc2 : w.cell? ⟨blk, 2, none⟩ = some (.iface 3 (.int .i64 x)) := by rw [Lib.cell_of_heap hb]; rfl
  clear hb
  have hF' := answers_open hF
  go_enter Tryf.func24, Tryf.ntmps24
  go_wp2_with (first | (go_simp; apply rows_value Tryf.nextTurns; case hr => (go_simp; exact ⟨rfl, rfl⟩)))
  go_ret
  exact ⟨_, rfl, ((Below.refl _ _).alloc (Nat.le_refl _) _).drew⟩

set_option maxRecDepth 20000 in
set_option maxHeartbeats 1000000 in
theorem errorf_name (F : Interp) (s : ByteArray) (blk : Nat) (w : World) (hF : F.answers w.tape) (hb : w.heap[blk]? = some (.cells #[.iface 9 (.string s)] 20 (0, 0))) :
    Calls Tryf.prog 24 #[.string ⟨#[102, 111, 114, 101, 111, 114, 100, 101, 114, 58, 32, 112, 114, 111, 99, 101, 100, 117, 114, 101, 32, 110, 97, 109, 101, 32, 37, 113, 32, 105, 115, 32, 101, 109, 112, 116, 121, 32, 111, 114, 32, 104, 111, 108, 100, 115, 32, 97, 32, 115, 112, 97, 99, 101, 32, 111, 114, 32, 110, 101, 119, 108, 105, 110, 101]⟩, .slice (some ⟨blk, 0, none⟩) 1 1] w (ErrPost w) := by
  have hc0 : w.cell? ⟨blk, 0, none⟩ = some (.iface 9 (.string s)) := by rw [Lib.cell_of_heap hb]; rfl
  clear hb
  have hF' := answers_open hF
  go_enter Tryf.func24, Tryf.ntmps24
  go_wp2_with (first | (go_simp; apply rows_value Tryf.nextTurns; case hr => (go_simp; exact ⟨rfl, rfl⟩)))
  go_ret
  exact ⟨_, rfl, ((Below.refl _ _).alloc (Nat.le_refl _) _).drew⟩

set_option maxRecDepth 20000 in
set_option maxHeartbeats 1000000 in
theorem errorf_bounds (F : Interp) (s : ByteArray) (x y : Int) (blk : Nat) (w : World) (hF : F.answers w.tape) (hb : w.heap[blk]? = some (.cells #[.iface 9 (.string s), .iface 3 (.int .i64 x), .iface 3 (.int .i64 y)] 20 (0, 0))) :
    Calls Tryf.prog 24 #[.string ⟨#[102, 111, 114, 101, 111, 114, 100, 101, 114, 58, 32, 112, 114, 111, 99, 101, 100, 117, 114, 101, 32, 37, 115, 32, 116, 97, 107, 101, 115, 32, 102, 114, 111, 109, 32, 37, 100, 32, 116, 111, 32, 37, 100, 32, 97, 114, 103, 117, 109, 101, 110, 116, 115]⟩, .slice (some ⟨blk, 0, none⟩) 3 3] w (ErrPost w) := by
  have hc0 : w.cell? ⟨blk, 0, none⟩ = some (.iface 9 (.string s)) := by rw [Lib.cell_of_heap hb]; rfl
  have hc1 : w.cell? ⟨blk, 1, none⟩ = some (.iface 3 (.int .i64 x)) := by rw [Lib.cell_of_heap hb]; rfl
  have hc2 : w.cell? ⟨blk, 2, none⟩ = some (.iface 3 (.int .i64 y)) := by rw [Lib.cell_of_heap hb]; rfl
  clear hb
  have hF' := answers_open hF
  go_enter Tryf.func24, Tryf.ntmps24
  go_wp2_with (first | (go_simp; apply rows_value Tryf.nextTurns; case hr => (go_simp; exact ⟨rfl, rfl⟩)))
  go_ret
  exact ⟨_, rfl, ((Below.refl _ _).alloc (Nat.le_refl _) _).drew⟩

set_option maxRecDepth 20000 in
set_option maxHeartbeats 2000000 in
theorem arity (F : Interp) (lo hi : Int) (w : World) (hF : F.answers w.tape) : Calls Tryf.prog 25 #[.int .i64 lo, .int .i64 hi] w (StrPost w) := by
  have hF' := answers_open hF
  go_enter Tryf.func25, Tryf.ntmps25
  go_wp2_with (first | (go_simp; apply rows_value Tryf.nextTurns; case hr => (go_simp; exact ⟨rfl, rfl⟩)))
  all_goals first
    | (go_ret; exact ⟨_, rfl, ((Below.refl _ _).alloc (Nat.le_refl _) _).drew⟩)
    | (go_ret; exact ⟨_, rfl, Below.refl _ _⟩)

/-- nil where the call fits, an error else. -/
def SizePost (w : World) (name : ByteArray) (xs : List ByteArray) (e : Ending) (w' : World) : Prop := (csz name xs ≤ 1048576 ∧ e = .returned .nilIface ∧ Below w.heap.size w w') ∨ (¬ csz name xs ≤ 1048576 ∧ ErrPost w e w')

set_option maxRecDepth 20000 in
set_option maxHeartbeats 2000000 in
theorem checkSize (F : Interp) (name : ByteArray) (a : Option Addr) (n cap : Nat) (xs : List ByteArray) (w : World) (hF : F.answers w.tape) (hb : Budget name xs) (hx : Args w a n xs) :
    Calls Tryf.prog 23 #[.string name, .slice a n cap] w (SizePost w name xs) := by
  have HF : Hid (F.answers w.tape) := hF
  have HC : Hid (Calls Tryf.prog 37 #[.string name, .slice a n cap] w (IntPost w (csz name xs))) := callSize name a n cap xs w hb hx
  clear hF hb hx
  by_cases h : csz name xs ≤ 1048576
  · have h' : (csz name xs : Int) ≤ 1048576 := by omega
    go_enter Tryf.func23, Tryf.ntmps23
    go_wp2_with (first | (go_at_call 37; refine HC.out.mono ?_; rintro e w1 ⟨rfl, HB⟩))
    go_ret
    exact .inl ⟨h, rfl, HB⟩
  · have h' : ¬ (csz name xs : Int) ≤ 1048576 := by omega
    go_enter Tryf.func23, Tryf.ntmps23
    go_wp2_with (first
      | (go_at_call 37; refine HC.out.mono ?_; rintro e w1 ⟨rfl, HB⟩)
      | (go_at_call 24; refine (errorf_size F (csz name xs : Nat) w1.heap.size _ (by show F.answers w1.tape; rw [HB.tape]; exact HF.out) (heap_alloc_new w1 _)).mono ?_; rintro e w2 ⟨g, rfl, HB2⟩))
    go_ret
    exact .inr ⟨h, g, rfl, HB.trans (((Below.refl _ w1).alloc (Nat.le_refl _) _).mono HB.size |>.trans (HB2.mono (Nat.le_trans HB.size (by simp))))⟩

set_option maxRecDepth 20000 in
theorem newProcedures (w : World) : Calls Tryf.prog 11 #[] w fun e w' => e = .returned (.pointer (some ⟨w.heap.size + 1, 0, none⟩)) ∧ w' = (w.alloc (.map #[] 0)).alloc (.cells #[.map (some w.heap.size)] 46) := by
  have hmm := @run_makeMap Tryf.prog
  go_enter Tryf.func11, Tryf.ntmps11
  go_wp2
  go_ret
  exact ⟨by simp, rfl⟩
end Go.Proofs.Qxb6616082aFmt
