import Derived.Test.Qxb6615940aBytes
namespace Go.Proofs.Qxb6615940a
open Go.RowKit

theorem ret_string {a b : ByteArray} (h : a = b) : Ending.returned (.string a) = .returned (.string b) := by rw [h]

set_option maxRecDepth 20000 in
set_option maxHeartbeats 1000000 in
theorem zzTypeOf (n : ByteArray) (a1 : Option Addr) (len1 cap1 : Nat) (cs : List (ByteArray × ByteArray)) (w : World) (hl : len1 ≤ 1048576) (h1 : ColRow w a1 len1 cs) :
    Calls Try.prog 8 #[.slice a1 len1 cap1, .string n] w fun e w' => e = .returned (.string (typeOf cs n)) ∧ w = w' := by
  go_enter Try.func8, Try.ntmps8
  go_wp2
  go_loop [5] (fun i => (∃ q : Nat, q < len1 ∧ i = .int .i64 q ∧ Hid (typeOf cs n = typeOf (cs.take (q + 1)) n)) ∨ (i = .int .i64 (-1) ∧ Hid (typeOf cs n = ByteArray.empty))) (fun i => (intOf i + 1).toNat)
  case atStart =>
    by_cases h0 : len1 = 0
    · refine .inr ⟨by subst h0; rfl, ?_⟩
      have := h1.1
      rw [h0, List.length_eq_zero_iff] at this
      subst this
      rfl
    · refine .inl ⟨len1 - 1, by omega, by go_num, ?_⟩
      show _ = _
      rw [List.take_of_length_le (by have := h1.1; omega)]
  case round =>
    rcases hrel with ⟨q, hq, rfl, ht⟩ | ⟨rfl, ht⟩
    · obtain ⟨b, off, s, t, rfl, hbw, hck, c1, c2⟩ := h1.at hq
      have HCK : Hid (cs[q]? = some (s, t)) := hck
      clear hck h1
      have c26 := Try.cells26
      go_wp2
      · go_ret
        exact ⟨ret_string (by rw [ht.out, typeOf_hit HCK.out (by assumption)]), rfl⟩
      · go_round
        case rel =>
          have hm : typeOf cs n = typeOf (cs.take q) n := ht.out.trans (typeOf_miss HCK.out (by assumption))
          cases q with
          | zero => exact .inr ⟨rfl, hm⟩
          | succ p => exact .inl ⟨p, by omega, by go_num, hm⟩
        case measure => simp [intOf]
    · go_wp2
      go_ret
      exact ⟨ret_string ht.out.symm, rfl⟩

end Go.Proofs.Qxb6615940a
