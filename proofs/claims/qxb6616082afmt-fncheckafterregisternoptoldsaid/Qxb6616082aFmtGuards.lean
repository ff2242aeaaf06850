import Derived.Test.Qxb6616082aFmtSizes
namespace Go.Proofs.Qxb6616082aFmt
open Go.RowKit Go.Extern.Stop Go.Stop Go.Extern

def BoolPost (w : World) (b : Bool) (e : Ending) (w' : World) : Prop := e = .returned (.bool b) ∧ Below w.heap.size w w'

theorem drewN_below {B : Nat} {a w : World} (h : Below B a w) (n : Nat) : Below B a (w.drewN n) := ⟨h.os, h.tape, h.output, h.size, h.block⟩

/-- No string is longer than a MiB. -/
def Small (n : Nat) (xs : List ByteArray) : Prop := ∀ i, i < n → (xs.getD i ⟨#[]⟩).size ≤ 1048576
def SomeBool (w : World) (n : Nat) (xs : List ByteArray) (e : Ending) (w' : World) : Prop := ∃ b, e = .returned (.bool b) ∧ w' = w ∧ (b = true → Small n xs)
def OverPost (w : World) (name : ByteArray) (xs : List ByteArray) (e : Ending) (w' : World) : Prop := ∃ b, e = .returned (.bool b) ∧ w' = w ∧ (b = false → Budget name xs)

set_option maxRecDepth 20000 in
set_option maxHeartbeats 2000000 in
theorem zzBytes (name : ByteArray) (z y : Int) (a : Option Addr) (n cap : Nat) (xs : List ByteArray) (w : World) (hx : Args w a n xs) :
    Calls Tryf.prog 10 #[.string name, .int .i64 z, .int .i64 y, .slice a n cap] w (SomeBool w n xs) := by
  have HA : Hid (Args w a n xs) := hx
  clear hx
  go_enter Tryf.func10, Tryf.ntmps10
  go_wp2
  all_goals first
    | (go_ret; exact ⟨_, rfl, rfl, fun h => by cases h⟩)
    | skip
  go_loop [9, 10] (fun zx ix => ∃ z k : Nat, z ≤ 1048576 ∧ k ≤ n ∧ zx = .int .i64 z ∧ ix = .int .i64 k ∧ Hid (Small k xs)) (fun _ ix => n - (intOf ix).toNat)
  case atStart => exact ⟨name.size + n, 0, by omega, by omega, by simp, rfl, fun i hi => by omega⟩
  case round =>
    obtain ⟨q, k, hq, hk, rfl, rfl, HK⟩ := hrel
    by_cases hkn : k < n
    · have hkn' : (k : Int) < (n : Int) := by omega
      obtain ⟨b, o, rfl, hblt, hcell⟩ := HA.out.cell k hkn
      have HX : Hid ((xs.getD k ⟨#[]⟩).size ≤ 1048576 → Small (k + 1) xs) := fun h i hi => by
        by_cases hik : i < k
        · exact HK.out i hik
        · have : i = k := by omega
          subst this
          exact h
      generalize xs.getD k ⟨#[]⟩ = x at hcell HX
      by_cases hx : x.size ≤ 1048576
      · have hx' : (x.size : Int) ≤ 1048576 := by omega
        go_wp2
        all_goals first
          | (go_ret; exact ⟨_, rfl, rfl, fun h => by cases h⟩)
          | exact ⟨⟨q + x.size, k + 1, by omega, by omega, by simp, rfl, HX.out hx⟩, by simp [intOf]; omega⟩
      · have hx' : ¬ (x.size : Int) ≤ 1048576 := by omega
        go_wp2
        all_goals first
          | (go_ret; exact ⟨_, rfl, rfl, fun h => by cases h⟩)
          | (exfalso; omega)
    · have hkn' : ¬ (k : Int) < (n : Int) := by omega
      go_wp2
      go_ret
      exact ⟨true, rfl, rfl, fun _ i hi => HK.out i (by omega)⟩

set_option maxRecDepth 20000 in
set_option maxHeartbeats 2000000 in
theorem overBudget (name : ByteArray) (a : Option Addr) (n cap : Nat) (xs : List ByteArray) (w : World) (hsm : Small n xs) (hx : Args w a n xs) :
    Calls Tryf.prog 6 #[.string name, .slice a n cap] w (OverPost w name xs) := by
  have HL : Hid (xs.length = n) := hx.len
  have HA : Hid (Args w a n xs) := hx
  have HSM : Hid (Small n xs) := hsm
  clear hx hsm
  by_cases h0 : name.size ≤ 1048576
  case neg =>
    have h0' : ¬ (name.size : Int) ≤ 1048576 := by omega
    go_enter Tryf.func6, Tryf.ntmps6
    go_wp2
    all_goals first
      | (go_ret; exact ⟨true, rfl, rfl, fun h => by cases h⟩)
      | (exfalso; omega)
  by_cases h1 : n ≤ 65536
  case neg =>
    have h1' : ¬ (n : Int) ≤ 65536 := by omega
    have h0' : (name.size : Int) ≤ 1048576 := by omega
    go_enter Tryf.func6, Tryf.ntmps6
    go_wp2
    all_goals first
      | (go_ret; exact ⟨true, rfl, rfl, fun h => by cases h⟩)
      | (exfalso; omega)
  have h0' : (name.size : Int) ≤ 1048576 := by omega
  have h1' : (n : Int) ≤ 65536 := by omega
  go_enter Tryf.func6, Tryf.ntmps6
  go_wp2
  all_goals first
    | (go_ret; exact ⟨true, rfl, rfl, fun h => by cases h⟩)
    | skip
  go_loop [5, 6] (fun tx ix => ∃ q k : Nat, q ≤ 1048576 ∧ k ≤ n ∧ tx = .int .i64 q ∧ ix = .int .i64 k ∧ Hid (q = name.size + 16 * n + lsz (xs.take k))) (fun _ ix => n - (intOf ix).toNat)
  case atStart => exact ⟨name.size + 16 * n, 0, by omega, by omega, by simp, rfl, by simp [Hid, lsz]⟩
  case round =>
    obtain ⟨q, k, hq, hk, rfl, rfl, HQ⟩ := hrel
    by_cases hkn : k < n
    · have hkn' : (k : Int) < (n : Int) := by omega
      obtain ⟨b, o, rfl, hblt, hcell⟩ := HA.out.cell k hkn
      have hsm := HSM.out k hkn
      have HS : Hid (lsz (xs.take (k + 1)) = lsz (xs.take k) + (xs.getD k ⟨#[]⟩).size) := lsz_step (by rw [HL.out]; exact hkn)
      generalize xs.getD k ⟨#[]⟩ = x at hcell hsm HS
      by_cases hx : q + x.size ≤ 1048576
      · have hx' : (q : Int) + (x.size : Int) ≤ 1048576 := by omega
        go_wp2
        have h1 := HS.out
        have h2 := HQ.out
        refine ⟨⟨q + x.size, k + 1, by omega, by omega, by simp, rfl, ?_⟩, by simp [intOf]; omega⟩
        show _ = _
        omega
      · have hx' : ¬ (q : Int) + (x.size : Int) ≤ 1048576 := by omega
        go_wp2
        go_ret
        exact ⟨true, rfl, rfl, fun h => by cases h⟩
    · have hkn' : ¬ (k : Int) < (n : Int) := by omega
      go_wp2
      go_ret
      have h1 := HL.out
      have h2 := HQ.out
      rw [List.take_of_length_le (by omega)] at h2
      exact ⟨false, rfl, rfl, fun _ => ⟨by omega, by omega⟩⟩

/-- Register's rule. -/
def blankB (name : ByteArray) : Bool := name.data.toList.any fun c => c == 32 || c == 10
def validB (name : ByteArray) (lo hi : Int) : Bool := !decide (name.size = 0) && !blankB name && !decide (lo < 0) && !(decide (0 ≤ hi) && decide (hi < lo))
def ValPost (w : World) (name : ByteArray) (lo hi : Int) (e : Ending) (w' : World) : Prop := e = .returned (.bool (validB name lo hi)) ∧ w' = w

set_option maxRecDepth 20000 in
set_option maxHeartbeats 2000000 in
theorem requestFits (name : ByteArray) (a : Option Addr) (n cap : Nat) (xs : List ByteArray) (w : World) (hb : Budget name xs) (hx : Args w a n xs) :
    Calls Tryf.prog 14 #[.string name, .slice a n cap] w (BoolPost w (decide (csz name xs ≤ 1048576))) := by
  have HL : Hid (xs.length = n) := hx.len
  have hc := hb.count
  have ht := hb.total
  have hal := asz_le xs (by omega)
  rw [HL.out] at hc ht hal
  have hun := ulen_le (x := n) (by omega)
  have hle := ulen_le (x := name.size) (by omega)
  have HA : Hid (Args w a n xs) := hx
  clear hx hb
  go_enter Tryf.func14, Tryf.ntmps14
  go_wp2_with (first
    | (go_at_call 27; refine (uvarintLen _ (by omega) _).mono ?_; rintro e w1 ⟨rfl, rfl⟩))
  go_loopw [5, 6] (fun tx ix wr => ∃ k : Nat, k ≤ n ∧ ix = .int .i64 k ∧ tx = .int .i64 (ssz name + ulen n + asz (xs.take k) : Nat) ∧ Hid (∃ m, wr = w1.drewN m)) (fun _ ix _ => n - (intOf ix).toNat)
  case atStart => exact ⟨0, Nat.zero_le _, rfl, by simp [asz, ssz], 0, rfl⟩
  case round =>
    obtain ⟨k, hk, rfl, rfl, HW⟩ := hrel
    have HAR : Hid (Args wr a n xs ∧ Below w1.heap.size w1 wr) := by
      obtain ⟨m, rfl⟩ := HW.out
      exact ⟨HA.out.of_below (Nat.le_refl _) (drewN_below (Below.refl _ _) m), drewN_below (Below.refl _ _) m⟩
    by_cases hkn : k < n
    · have hkn' : (k : Int) < (n : Int) := by omega
      have h0k : (0 : Int) ≤ (k : Int) := by omega
      obtain ⟨b, o, rfl, hblt, hcell⟩ := HAR.out.1.cell k hkn
      have hsz := size_le (xs := xs) (k := k) (by rw [HL.out]; exact hkn)
      have hstep := asz_step (xs := xs) (k := k) (by rw [HL.out]; exact hkn)
      have hle2 := asz_take_le xs (k + 1)
      have HS : Hid (asz (xs.take (k + 1)) = asz (xs.take k) + ssz (xs.getD k ⟨#[]⟩)) := hstep
      generalize xs.getD k ⟨#[]⟩ = x at hcell hsz hstep HS
      have hux := ulen_le (x := x.size) (by omega)
      have hn2 : ssz name ≤ 1048586 := by unfold ssz; omega
      have hz2 : asz (xs.take k) ≤ 1800000 := by omega
      have HC : Hid (∀ w, Calls Tryf.prog 27 #[.int .u64 x.size] w fun e w' => e = .returned (.int .i64 (ulen x.size)) ∧ w' = w) := uvarintLen x.size (by omega)
      go_wp2
      go_quiet ((go_at_call 27; exact Calls.quiet_of_same (HC.out _)))
      go_wp2
      have hst := HS.out
      refine ⟨⟨k + 1, by omega, rfl, ?_, ?_⟩, by simp [intOf]; omega⟩
      · rw [hst]
        simp [ssz]
        omega
      · obtain ⟨m, hm⟩ := HW.out
        exact ⟨m + nq, by rw [hm, World.drewN_drewN]⟩
    · have hkn' : ¬ (k : Int) < (n : Int) := by omega
      have HE : Hid (csz name xs = ssz name + ulen n + asz (xs.take k)) := by
        show csz name xs = _
        have hl := HL.out
        rw [csz, hl, List.take_of_length_le (by omega)]
      go_wp2
      go_ret
      refine ⟨?_, HAR.out.2⟩
      rw [HE.out]
      simp
      omega

theorem isEmpty_false {x : ByteArray} (h : ¬ x.size = 0) : x.toList.isEmpty = false := by
  rw [Lib.toList_data]
  rcases x with ⟨⟨l⟩⟩
  cases l with
  | nil => exact absurd rfl h
  | cons c l => rfl

theorem blank_hit {x : ByteArray} {k : Nat} (h : k < x.size) (e : (x[k].toNat : Int) = 32 ∨ (x[k].toNat : Int) = 10) : blankB x = true := by
  unfold blankB
  rw [List.any_eq_true]
  have hk : k < x.data.toList.length := h
  refine ⟨x.data.toList[k], List.getElem_mem hk, ?_⟩
  have hx : x.data.toList[k] = x[k] := rfl
  rw [hx]
  rcases e with e | e
  · have : x[k] = 32 := UInt8.toNat_inj.1 (by simpa using (by omega : x[k].toNat = 32))
    rw [this]; rfl
  · have : x[k] = 10 := UInt8.toNat_inj.1 (by simpa using (by omega : x[k].toNat = 10))
    rw [this]; rfl

theorem any_take {l : List UInt8} {f : UInt8 → Bool} {k : Nat} (h : k < l.length) : (l.take (k + 1)).any f = ((l.take k).any f || f l[k]) := by
  rw [List.take_succ_eq_append_getElem h, List.any_append]; simp

set_option maxRecDepth 20000 in
set_option maxHeartbeats 2000000 in
theorem registrationValid (name : ByteArray) (lo hi : Int) (w : World) (hs : name.size ≤ 1048576) :
    Calls Tryf.prog 13 #[.string name, .int .i64 lo, .int .i64 hi] w (ValPost w name lo hi) := by
  by_cases h0 : name.size = 0
  · have hn : name = ⟨#[]⟩ := by
      rcases name with ⟨⟨l⟩⟩
      cases l with
      | nil => rfl
      | cons c l => simp [ByteArray.size] at h0
    subst hn
    go_enter Tryf.func13, Tryf.ntmps13
    go_wp2
    go_ret
    exact ⟨rfl, rfl⟩
  · have hne : name.toList.isEmpty = false := isEmpty_false h0
    go_enter Tryf.func13, Tryf.ntmps13
    go_wp2
    go_loop [7] (fun ix => ∃ k : Nat, k ≤ name.size ∧ ix = .int .i64 k ∧ Hid ((name.data.toList.take k).any (fun c => c == 32 || c == 10) = false)) (fun ix => name.size - (intOf ix).toNat)
    case atStart => exact ⟨0, Nat.zero_le _, rfl, rfl⟩
    case round =>
      obtain ⟨k, hk, rfl, HK⟩ := hrel
      by_cases hkn : k < name.size
      · have hkn' : (k : Int) < (name.size : Int) := by omega
        go_wp2
        · go_ret
          exact ⟨by simp [validB, blank_hit hkn (.inl ‹_›)], rfl⟩
        · go_ret
          have hh := ‹(_ == _) = true ∨ _›
          have hh2 : (name[k].toNat : Int) = 32 ∨ (name[k].toNat : Int) = 10 := by
            rcases hh with h | h
            · exact .inl (by simpa using h)
            · exact .inr (by simpa using h)
          exact ⟨by simp [validB, blank_hit hkn hh2], rfl⟩
        · have hh := ‹(_ == _) = false ∧ _›
          refine ⟨⟨k + 1, by omega, rfl, ?_⟩, by simp [intOf]; omega⟩
          show ((name.data.toList.take (k + 1)).any _) = false
          have hl : k < name.data.toList.length := hkn
          have hx : name.data.toList[k] = name[k] := rfl
          rw [any_take hl, HK.out, hx]
          have n1 : ¬ name[k] = 32 := fun e => by rw [e] at hh; simp at hh
          have n2 : ¬ name[k] = 10 := fun e => by rw [e] at hh; simp at hh
          simp [n1, n2]
      · have hkn' : ¬ (k : Int) < (name.size : Int) := by omega
        have HN : Hid (blankB name = false) := by
          have h := HK.out
          rw [List.take_of_length_le (show name.data.toList.length ≤ k from Nat.le_of_not_lt hkn)] at h
          exact h
        by_cases h1 : lo < 0
        · go_wp2
          go_ret
          exact ⟨by simp [validB, h1], rfl⟩
        · by_cases h2 : 0 ≤ hi
          · by_cases h3 : hi < lo
            · go_wp2
              go_ret
              exact ⟨by simp [validB, h2, h3], rfl⟩
            · go_wp2
              go_ret
              exact ⟨by simp [validB, HN.out, h0]; omega, rfl⟩
          · go_wp2
            go_ret
            exact ⟨by simp [validB, HN.out, h0]; omega, rfl⟩
end Go.Proofs.Qxb6616082aFmt
