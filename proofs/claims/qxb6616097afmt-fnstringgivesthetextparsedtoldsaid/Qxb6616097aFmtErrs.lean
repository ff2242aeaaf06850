import Derived.Test.Qxb6616097aFmtState
namespace Go.Proofs.Qxb6616097aFmt
open Go.RowKit Go.Extern.Stop Go.Stop Go.Extern

/-- An error that is not nil, of errors.New's make; what was there is as it was. -/
def ErrPost (w : World) (e : Ending) (w' : World) : Prop := ∃ g, e = .returned (.iface 84 (.pointer (some ⟨g, 0, none⟩))) ∧ Below w.heap.size w w'

theorem errors_New (x : ByteArray) (w : World) : Calls Tryf.prog 49 #[.string x] w (ErrPost w) := by
  go_enter Tryf.func49, Tryf.ntmps49
  go_wp2
  go_ret
  exact ⟨_, rfl, (Below.refl _ _).alloc (Nat.le_refl _) _⟩

set_option maxHeartbeats 1000000 in
theorem errorf2 (F : Interp) (x : Int) (t : ByteArray) (blk : Nat) (w : World) (hF : F.answers w.tape) (hb : w.heap[blk]? = some (.cells #[.iface 3 (.int .i64 x), .iface 9 (.string t)] 20 (0, 0))) :
    Calls Tryf.prog 57 #[.string ⟨#[97, 116, 32, 111, 102, 102, 115, 101, 116, 32, 37, 100, 58, 32, 37, 115]⟩, .slice (some ⟨blk, 0, none⟩) 2 2] w (ErrPost w) := by
  have hc0 : w.cell? ⟨blk, 0, none⟩ = some (.iface 3 (.int .i64 x)) := by rw [Lib.cell_of_heap hb]; rfl
  have hc1 : w.cell? ⟨blk, 1, none⟩ = some (.iface 9 (.string t)) := by rw [Lib.cell_of_heap hb]; rfl
  clear hb
  have hF' := answers_open hF
  go_enter Tryf.func57, Tryf.ntmps57
  go_wp2
  go_ret
  exact ⟨_, rfl, ((Below.refl _ _).alloc (Nat.le_refl _) _).drew⟩

set_option maxHeartbeats 1000000 in
theorem errorf1 (F : Interp) (t : ByteArray) (blk : Nat) (w : World) (hF : F.answers w.tape) (hb : w.heap[blk]? = some (.cells #[.iface 9 (.string t)] 20 (0, 0))) :
    Calls Tryf.prog 57 #[.string ⟨#[102, 105, 101, 108, 100, 32, 37, 115, 32, 98, 111, 117, 110, 100, 32, 116, 119, 105, 99, 101]⟩, .slice (some ⟨blk, 0, none⟩) 1 1] w (ErrPost w) := by
  have hc0 : w.cell? ⟨blk, 0, none⟩ = some (.iface 9 (.string t)) := by rw [Lib.cell_of_heap hb]; rfl
  clear hb
  have hF' := answers_open hF
  go_enter Tryf.func57, Tryf.ntmps57
  go_wp2
  go_ret
  exact ⟨_, rfl, ((Below.refl _ _).alloc (Nat.le_refl _) _).drew⟩
end Go.Proofs.Qxb6616097aFmt
