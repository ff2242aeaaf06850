import Derived.Test.Qxb6615940aTypeOf
import Derived.WalkLawsBesides
namespace Go.Proofs.Qxb6615940a
open Go.RowKit

set_option maxRecDepth 20000 in
set_option maxHeartbeats 1000000 in
theorem zeroDef (w : World) :
    Calls Try.prog 12 #[.agg #[.string ⟨#[]⟩, .string ⟨#[]⟩, .slice none 0 0, .slice none 0 0]] w fun e w' => e = .returned (.bool true) ∧ w' = w.alloc (.cells #[.string ⟨#[]⟩, .string ⟨#[]⟩, .slice none 0 0, .slice none 0 0] 37) := by
  have e23 := fun (w : World) (a : Option Addr) (n c : Nat) => Lib.run_eql_slice_nil (P := Try.prog) w 23 9 a n c 0 0 Try.underlying23
  go_enter Try.func12, Try.ntmps12
  go_wp2
  go_ret
  exact ⟨rfl, rfl⟩

set_option maxRecDepth 20000 in
set_option maxHeartbeats 1000000 in
theorem plainCol (n t : ByteArray) (w : World) :
    Calls Try.prog 9 #[.agg #[.string n, .string t, .bool false, .string ⟨#[]⟩, .string ⟨#[]⟩, .slice none 0 0, .slice none 0 0, .string ⟨#[]⟩, .string ⟨#[]⟩, .slice none 0 0, .slice none 0 0, .string ⟨#[]⟩,
      .string ⟨#[]⟩, .string ⟨#[]⟩, .int .i64 0, .int .i64 0, .int .i64 0, .int .i64 0, .int .i64 0, .bool false, .string ⟨#[]⟩, .string ⟨#[]⟩, .string ⟨#[]⟩], .string n, .string t] w fun e w' => e = .returned (.bool true) ∧ Below w.heap.size w w' := by
  go_enter Try.func9, Try.ntmps9
  go_wp2_with (first | (go_at_call 12; refine (zeroDef _).mono ?_; rintro e w' ⟨rfl, rfl⟩))
  go_ret
  exact ⟨rfl, (((Below.refl _ _).alloc (Nat.le_refl _) _).alloc (by simp) _).alloc (by simp; omega) _⟩

end Go.Proofs.Qxb6615940a
