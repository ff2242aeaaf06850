import Derived.Test.Qxb6615940aIdent
namespace Go.Proofs.Qxb6615940a
open Go.RowKit

set_option maxHeartbeats 1000000 in
theorem zzMent (t n : ByteArray) (w : World) (ht : t.size ≤ 1048576) (hn : n.size ≤ 1048576) (hn0 : 0 < n.size) :
    Calls Try.prog 5 #[.string t, .string n] w fun e w' => e = .returned (.bool (mentB t n)) ∧ w = w' := by
  go_enter Try.func5, Try.ntmps5
  go_wp2
  go_loop [5] (fun i => ∃ k : Nat, k ≤ t.size + 1 ∧ i = .int .i64 k ∧ Hid (∀ j, j < k → okAtB t n j = false)) (fun i => t.size + 1 - (intOf i).toNat)
  case atStart => exact ⟨0, Nat.zero_le _, rfl, fun j hj => absurd hj (Nat.not_lt_zero _)⟩
  case round =>
    obtain ⟨k, hk, rfl, hno⟩ := hrel
    have hstep : Hid (okAtB t n k = false → ∀ j, j < k + 1 → okAtB t n j = false) := fun h j hj => by
      by_cases e : j = k
      · rw [e]; exact h
      · exact hno.out j (by omega)
    by_cases hlt : k + n.size ≤ t.size
    · have hk1 : k - 1 < t.size := by omega
      have hks : k < t.size := by omega
      by_cases he : k + n.size < t.size
      all_goals by_cases hz : 0 < k
      all_goals go_wp2_with (first | (go_at_call 10; refine (ident10 _ _).mono ?_; rintro e w' ⟨rfl, rfl⟩))
      all_goals first
        | (go_ret
           refine ⟨ret_bool (mentB_true (k := k) hlt ?_).symm, rfl⟩
           clear hno hstep
           simp_all [okAtB, byteAt] <;> omega)
        | (go_round
           case rel =>
             refine ⟨k + 1, by omega, by go_num, hstep.out ?_⟩
             clear hno hstep
             simp_all [okAtB, byteAt] <;> omega
           case measure => simp [intOf]; omega)
    · go_wp2
      go_ret
      exact ⟨ret_bool (mentB_false fun j hj => hno.out j (by omega)).symm, rfl⟩

end Go.Proofs.Qxb6615940a
