import Derived.Test.Qxb6616082aFmtBase
namespace Go.Proofs.Qxb6616082aFmt
open Go.RowKit Go.Extern.Stop Go.Stop Go.Extern

/-- It returns the number; what was there is as it was. -/
def IntPost (w : World) (z : Int) (e : Ending) (w' : World) : Prop := e = .returned (.int .i64 z) ∧ Below w.heap.size w w'

theorem setCells_below {B g : Nat} {a : World} (hg : B ≤ g) : ∀ (cs : List Value) (o : Nat) (w : World), Below B a w → Below B a (w.setCells g o cs)
  | [], _, _, h => h
  | c :: cs, o, _, h => setCells_below hg cs (o + 1) _ (h.setCell (p := ⟨g, o, none⟩) hg c)

set_option maxRecDepth 20000 in
set_option maxHeartbeats 1000000 in
theorem uvarintSize (x : Nat) (hx : x < 18446744073709551616) (w : World) : Calls Tryf.prog 47 #[.int .u64 x] w (IntPost w (ulen x)) := by
  have hle := ulen_le hx
  go_enter Tryf.func47, Tryf.ntmps47
  go_wp2_with (first | (go_at_call 58; refine (Tryf.binary_PutUvarint w.heap.size 0 10 10 x hx _ hle ?_).mono ?_))
  · intro j hj
    have hj' : j < 10 := Nat.lt_of_lt_of_le hj hle
    rw [Nat.zero_add, World.cell?_alloc_at _ _ _ _ rfl, World.frozen?_alloc_at _ _ _ _ rfl]
    exact ⟨by rw [Array.getElem?_eq_getElem (by simpa using hj')]; rfl, rfl⟩
  · rintro e w' ⟨rfl, hw⟩
    have HB : Hid (Below w.heap.size w w') := by
      rw [hw]
      exact setCells_below (Nat.le_refl _) _ _ _ ((Below.refl _ _).alloc (Nat.le_refl _) _)
    clear hw
    go_wp2
    go_ret
    exact ⟨rfl, HB.out⟩

set_option maxRecDepth 20000 in
set_option maxHeartbeats 1000000 in
theorem uvarintLen (x : Nat) (hx : x < 18446744073709551616) (w : World) : Calls Tryf.prog 27 #[.int .u64 x] w fun e w' => e = .returned (.int .i64 (ulen x)) ∧ w' = w := by
  have hle := ulen_le hx
  go_enter Tryf.func27, Tryf.ntmps27
  go_wp2
  go_loop [0, 3] (fun ix nx => ∃ y k : Nat, y ≤ x ∧ k ≤ 9 ∧ ix = .int .u64 y ∧ nx = .int .i64 (k + 1 : Nat) ∧ Hid (ulen x = ulen y + k)) (fun ix _ => (intOf ix).toNat)
  case atStart => exact ⟨x, 0, Nat.le_refl _, by omega, rfl, rfl, rfl⟩
  case round =>
    obtain ⟨y, k, hy, hk, rfl, rfl, HU⟩ := hrel
    by_cases h : 128 ≤ y
    · have h' : (128 : Int) ≤ (y : Int) := by omega
      go_wp2
      have hu := HU.out
      have hb := ulen_big h
      have hp := ulen_pos (y / 128)
      refine ⟨⟨y / 128, k + 1, by omega, by omega, by simp, by simp, ?_⟩, by simp [intOf]; omega⟩
      show ulen x = _
      omega
    · have h' : ¬ (128 : Int) ≤ (y : Int) := by omega
      go_wp2
      go_ret
      have hu := HU.out
      have := ulen_small (x := y) (by omega)
      refine ⟨?_, rfl⟩
      rw [this] at hu
      rw [hu]
      simp
      omega
set_option maxRecDepth 20000 in
set_option maxHeartbeats 1000000 in
theorem stringSize (s : ByteArray) (hs : s.size ≤ 1048576) (w : World) : Calls Tryf.prog 46 #[.string s] w (IntPost w (ssz s)) := by
  have hle := ulen_le (x := s.size) (by omega)
  go_enter Tryf.func46, Tryf.ntmps46
  go_wp2_with (first | (go_at_call 47; refine (uvarintSize s.size (by omega) _).mono ?_; rintro e w' ⟨rfl, HB⟩))
  go_ret
  exact ⟨rfl, HB⟩

set_option maxRecDepth 20000 in
set_option maxHeartbeats 2000000 in
theorem callSize (name : ByteArray) (a : Option Addr) (n cap : Nat) (xs : List ByteArray) (w : World) (hb : Budget name xs) (hx : Args w a n xs) :
    Calls Tryf.prog 37 #[.string name, .slice a n cap] w (IntPost w (csz name xs)) := by
  have hn : xs.length = n := hx.len
  have hc := hb.count
  have ht := hb.total
  have hal := asz_le xs (by omega)
  have hun := ulen_le (x := n) (by omega)
  have hle := ulen_le (x := name.size) (by omega)
  have hss : ssz name ≤ 1048586 := by unfold ssz; omega
  have HA : Hid (Args w a n xs) := hx
  clear hx hb hle
  go_enter Tryf.func37, Tryf.ntmps37
  go_wp2_with (first
    | (go_at_call 46; refine (stringSize name (by omega) _).mono ?_; rintro e w1 ⟨rfl, HB1⟩)
    | (go_at_call 47; refine (uvarintSize n (by omega) _).mono ?_; rintro e w2 ⟨rfl, HB2⟩))
  have HB : Hid (Below w.heap.size w w2) := HB1.trans (HB2.mono HB1.size)
  clear HB1 HB2
  go_loopw [5, 17] (fun tx ix wr => ∃ k : Nat, k ≤ n ∧ ix = .int .i64 k ∧ tx = .int .i64 (ssz name + ulen n + asz (xs.take k) : Nat) ∧ Hid (Below w.heap.size w wr)) (fun _ ix _ => n - (intOf ix).toNat)
  case atStart => exact ⟨0, Nat.zero_le _, rfl, by simp [asz], HB⟩
  case round =>
    obtain ⟨k, hk, rfl, rfl, HR⟩ := hrel
    by_cases hkn : k < n
    · have hkn' : (k : Int) < (n : Int) := by omega
      have hA := HA.out.of_below (Nat.le_refl _) HR.out
      obtain ⟨b, o, rfl, hblt, hcell⟩ := hA.cell k hkn
      have hsz := size_le (xs := xs) (k := k) (by omega)
      have hstep := asz_step (xs := xs) (k := k) (by omega)
      have hle2 := asz_take_le xs (k + 1)
      have HS : Hid (asz (xs.take (k + 1)) = asz (xs.take k) + ssz (xs.getD k ⟨#[]⟩)) := hstep
      clear hA
      generalize xs.getD k ⟨#[]⟩ = x at hcell hsz hstep HS
      go_wp2_with (first
        | (go_at_call 46; refine (stringSize x (by omega) _).mono ?_; rintro e w3 ⟨rfl, HB3⟩))
      have hst := HS.out
      refine ⟨⟨k + 1, by omega, rfl, ?_, HR.out.trans (HB3.mono HR.out.size)⟩, by simp [intOf]; omega⟩
      rw [hst]
      congr 1
      omega
    · have hkn' : ¬ (k : Int) < (n : Int) := by omega
      have HE : Hid (csz name xs = ssz name + ulen n + asz (xs.take k)) := by
        show csz name xs = _
        rw [csz, hn, List.take_of_length_le (by omega)]
      go_wp2
      go_ret
      refine ⟨?_, HR.out⟩
      rw [HE.out]
      simp
end Go.Proofs.Qxb6616082aFmt
