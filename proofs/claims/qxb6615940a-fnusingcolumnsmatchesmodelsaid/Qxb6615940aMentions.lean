import Derived.Test.Qxb6615940aIdent
import Derived.Test.Qxb6615940aIndex
import Derived.Test.Qxb6615940aShelf
namespace Go.Proofs.Qxb6615940a
open Go.RowKit

set_option maxRecDepth 20000 in
set_option maxHeartbeats 1000000 in
theorem mentions (t n : ByteArray) (w : World) (m : Int) (hm : w.cell? ⟨0, 0, none⟩ = some (.int .i64 m)) (ht : t.size ≤ 1048576) (hn : n.size ≤ 1048576) (hn0 : 0 < n.size) :
    Calls Try.prog 13 #[.string t, .string n] w fun e w' => e = .returned (.bool (mentB t n)) ∧ w = w' := by
  go_enter Try.func13, Try.ntmps13
  go_wp2
  go_loop [5] (fun i => ∃ k : Nat, k ≤ t.size ∧ i = .int .i64 k ∧ Hid (∀ j, j < k → okAtB t n j = false)) (fun i => t.size - (intOf i).toNat)
  case atStart => exact ⟨0, Nat.zero_le _, rfl, fun j hj => absurd hj (Nat.not_lt_zero _)⟩
  case round =>
    obtain ⟨k, hk, rfl, hno⟩ := hrel
    have hsz : (t.extract k t.size).size ≤ 1048576 := by simp; omega
    rcases idx_spec t n k hk hn0 with ⟨hr, hnone⟩ | ⟨q, hr, hroom, hocc, hbef⟩
    · have HN : Hid (∀ j, k ≤ j → okAtB t n j = false) := hnone
      have hix : Calls Try.prog 16 #[.string (t.extract k t.size), .string n] w fun e w' => e = .returned (.int .i64 (-1)) ∧ w' = w := by
        have := Try.strings_Index (t.extract k t.size) n m w (by omega) hm
        rw [hr] at this
        exact this
      have HI : Hid (Calls Try.prog 16 #[.string (t.extract k t.size), .string n] w fun e w' => e = .returned (.int .i64 (-1)) ∧ w' = w) := hix
      clear hix hr hnone
      go_wp2_with (go_at_call 16; refine (HI.out).mono ?_; rintro e w' ⟨rfl, rfl⟩)
      go_ret
      exact ⟨ret_bool (mentB_false fun j hj => by
        by_cases e : j < k
        · exact hno.out j e
        · exact HN.out j (by omega)).symm, rfl⟩
    · have HB : Hid (∀ j, k ≤ j → j < k + q → okAtB t n j = false) := hbef
      have HO : Hid (((t.extract (k + q) (k + q + n.size)).toList == n.toList) = true) := hocc
      have hix : Calls Try.prog 16 #[.string (t.extract k t.size), .string n] w fun e w' => e = .returned (.int .i64 q) ∧ w' = w := by
        have := Try.strings_Index (t.extract k t.size) n m w (by omega) hm
        rw [hr] at this
        exact this
      have HI : Hid (Calls Try.prog 16 #[.string (t.extract k t.size), .string n] w fun e w' => e = .returned (.int .i64 q) ∧ w' = w) := hix
      clear hix hr hbef hocc
      have hstep : Hid (okAtB t n (k + q) = false → ∀ j, j < k + q + 1 → okAtB t n j = false) := fun h j hj => by
        by_cases e : j = k + q
        · rw [e]; exact h
        · by_cases e2 : j < k
          · exact hno.out j e2
          · exact HB.out j (by omega) (by omega)
      have hk1 : k + q - 1 < t.size := by omega
      have hks : k + q < t.size := by omega
      by_cases he : k + q + n.size < t.size
      all_goals by_cases hz : 0 < k + q
      all_goals go_wp2_with (first | (go_at_call 16; refine (HI.out).mono ?_; rintro e w' ⟨rfl, rfl⟩) | (go_at_call 17; refine (ident17 _ _).mono ?_; rintro e w' ⟨rfl, rfl⟩))
      all_goals first
        | (go_ret
           refine ⟨ret_bool (mentB_true (k := k + q) (by omega) ?_).symm, rfl⟩
           have ho := HO.out
           clear HO hstep hno HI HB
           first
             | (simp_all [okAtB, byteAt] <;> omega)
             | (have hk0 : k = 0 := by omega
                have hq0 : q = 0 := by omega
                subst hk0
                subst hq0
                simp_all [okAtB, byteAt] <;> omega))
        | (go_round
           case rel =>
             refine ⟨k + q + 1, by omega, by go_num, hstep.out ?_⟩
             have ho := HO.out
             clear HO hstep hno HI HB
             first
               | (simp_all [okAtB, byteAt] <;> omega)
               | (have hk0 : k = 0 := by omega
                  have hq0 : q = 0 := by omega
                  subst hk0
                  subst hq0
                  simp_all [okAtB, byteAt] <;> omega)
           case measure => simp [intOf]; omega)

end Go.Proofs.Qxb6615940a
