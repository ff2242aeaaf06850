import Derived.Test.Qxb6616082aFmtErrs
import Derived.Laws.Runes
import Derived.Laws.RangeAny
import Derived.WalkMore
namespace Go.Proofs.Qxb6616082aFmt
open Go.RowKit Go.Extern.Stop Go.Stop Go.Extern

theorem encode_two (r : Int) (h0 : 128 ≤ r) (h1 : r < 2048) : ∃ a b : UInt8, Utf8.encode r = ⟨#[a, b]⟩ ∧ 128 ≤ b.toNat := by
  have hv : Utf8.valid r = true := by simp [Utf8.valid]; omega
  have hc : ¬ r.toNat < 128 := by omega
  have hd : r.toNat < 2048 := by omega
  refine ⟨UInt8.ofNat (192 + r.toNat / 64), UInt8.ofNat (128 + r.toNat % 64), by unfold Utf8.encode; simp only [hv, if_true, if_neg hc, if_pos hd], ?_⟩
  simp; omega

theorem encode_more (r : Int) (h0 : 2048 ≤ r) : 3 ≤ (Utf8.encode r).size ∧ (Utf8.encode r).size ≤ 4 := by
  unfold Utf8.encode
  by_cases hv : Utf8.valid r = true
  · have hc : ¬ r.toNat < 128 := by omega
    have hd : ¬ r.toNat < 2048 := by omega
    simp only [hv, if_true, if_neg hc, if_neg hd]
    split <;> simp [ByteArray.size]
  · simp only [hv]
    simp [Utf8.runeError, ByteArray.size]

/-- IndexRune's answer at the string of a blank and a newline: below 0 but at these two. -/
def IdxPost (r : Int) (w : World) (e : Ending) (w' : World) : Prop := ∃ z : Int, e = .returned (.int .i64 z) ∧ (0 ≤ z ↔ r = 32 ∨ r = 10) ∧ Below w.heap.size w w'

theorem indexRune_ascii (r : Int) (w : World) (h0 : 0 ≤ r) (h1 : r < 128) : Calls Tryf.prog 54 #[.string ⟨#[32, 10]⟩, .int .i32 r] w (IdxPost r w) := by
  refine (Tryf.strings_IndexRune_ascii ⟨#[32, 10]⟩ r w h0 h1).mono fun e w' ⟨h, hw⟩ => ⟨_, h, ?_, by rw [hw]; exact Below.refl _ _⟩
  obtain ⟨k, rfl⟩ : ∃ k : Nat, r = k := ⟨r.toNat, by omega⟩
  have key : ∀ n : Fin 128, (0 ≤ Lib.indexByte [32, 10] (n.val : Int).toNat.toUInt8 ↔ (n.val : Int) = 32 ∨ (n.val : Int) = 10) := by decide +kernel
  exact key ⟨k, by omega⟩

set_option maxRecDepth 20000 in
set_option maxHeartbeats 1000000 in
theorem indexRune_bad (r : Int) (w : World) (h0 : 128 ≤ r) (hne : ¬ r = 65533) (hv : Lib.validRune r = false) : Calls Tryf.prog 54 #[.string ⟨#[32, 10]⟩, .int .i32 r] w (IdxPost r w) := by
  go_enter Tryf.func54, Tryf.ntmps54
  go_wp2_with (go_at_call 70; refine (Tryf.utf8_ValidRune r _).mono ?_; rintro e w' ⟨rfl, rfl⟩)
  go_ret
  exact ⟨-1, rfl, by omega, Below.refl _ _⟩

set_option maxRecDepth 20000 in
set_option maxHeartbeats 1000000 in
theorem indexRune_more (r : Int) (w : World) (h0 : 2048 ≤ r) (hne : ¬ r = 65533) (hv : Lib.validRune r = true) : Calls Tryf.prog 54 #[.string ⟨#[32, 10]⟩, .int .i32 r] w (IdxPost r w) := by
  obtain ⟨h3, h4⟩ := encode_more r h0
  have hconv : ∀ w, (convert 21 9 (.int .i32 r)).run Tryf.prog w = .ok (.string (Utf8.encode r)) w := fun w => by
    rw [run_convert_int_string w 21 9 .i32 r (by kernel_rfl) (by kernel_rfl)]
  generalize Utf8.encode r = rs at h3 h4 hconv
  go_enter Tryf.func54, Tryf.ntmps54
  go_wp2_with (go_at_call 70; refine (Tryf.utf8_ValidRune r _).mono ?_; rintro e w' ⟨rfl, rfl⟩)
  go_step3
  go_wp2
  go_loop [9, 10] (fun i f => i = .int .i64 ((rs.size : Int) - 1) ∧ f = .int .i64 0) (fun _ _ => 0)
  case atStart => exact ⟨by simp, rfl⟩
  case round =>
    obtain ⟨rfl, rfl⟩ := hrel
    have h3' : ¬ (rs.size : Int) - 1 < 2 := by omega
    go_wp2
    refine (show bodyPost Tryf.prog Tryf.f54 (IdxPost r w') .ret _ _ from ?_)
    go_ret
    exact ⟨-1, rfl, by omega, Below.refl _ _⟩

set_option maxRecDepth 20000 in
set_option maxHeartbeats 1000000 in
theorem indexRune_two (r : Int) (w : World) (h0 : 128 ≤ r) (h1 : r < 2048) : Calls Tryf.prog 54 #[.string ⟨#[32, 10]⟩, .int .i32 r] w (IdxPost r w) := by
  have hv : Lib.validRune r = true := by simp [Lib.validRune]; omega
  obtain ⟨a, b, he, hb⟩ := encode_two r h0 h1
  have hconv : ∀ w, (convert 21 9 (.int .i32 r)).run Tryf.prog w = .ok (.string ⟨#[a, b]⟩) w := fun w => by
    rw [run_convert_int_string w 21 9 .i32 r (by kernel_rfl) (by kernel_rfl), he]
  have hsz : (⟨#[a, b]⟩ : ByteArray).size = 2 := rfl
  have hx : ((((⟨#[32, 10]⟩ : ByteArray)[1]'(by decide)).toNat : Int) != (((⟨#[a, b]⟩ : ByteArray)[1]'(by rw [hsz]; decide)).toNat : Int)) = true := by
    have e1 : (⟨#[32, 10]⟩ : ByteArray)[1]'(by decide) = 10 := rfl
    have e2 : (⟨#[a, b]⟩ : ByteArray)[1]'(by rw [hsz]; decide) = b := rfl
    rw [e1, e2]
    have : (10 : UInt8).toNat = 10 := rfl
    simp; omega
  have hib : Hid (∀ w, Calls Tryf.prog 69 #[.string ((⟨#[32, 10]⟩ : ByteArray).extract 2 2), .int .u8 ((((⟨#[a, b]⟩ : ByteArray)[1]'(by rw [hsz]; decide)).toNat : Nat) : Int)] w fun e w' => e = .returned (.int .i64 (-1)) ∧ w' = w) := fun w => by
    refine (Tryf.strings_IndexByte _ _ _).mono fun e w' ⟨h1, h2⟩ => ⟨?_, h2⟩
    rw [h1]
    rfl
  clear he
  go_enter Tryf.func54, Tryf.ntmps54
  go_wp2_with (go_at_call 70; refine (Tryf.utf8_ValidRune r _).mono ?_; rintro e w' ⟨rfl, rfl⟩)
  go_step3
  go_wp2
  go_loop [9, 10] (fun i f => i = .int .i64 1 ∧ f = .int .i64 0) (fun _ _ => 0)
  case atStart => exact ⟨rfl, rfl⟩
  case round =>
    obtain ⟨rfl, rfl⟩ := hrel
    go_wp2
    go_step3
    go_wp2
    go_quiet (fail)
    go_wp2
    have HBZ : Hid (∃ n, w'.drewN nq = w'.drewN n) := ⟨nq, rfl⟩
    generalize w'.drewN nq = wz at HBZ ⊢
    go_quiet ((go_at_call 69; exact Calls.quiet_of_same (hib.out _)))
    go_wp2
    refine (show bodyPost Tryf.prog Tryf.f54 (IdxPost r w') .ret _ _ from ?_)
    go_ret
    obtain ⟨n0, hn0⟩ := HBZ.out
    exact ⟨-1, rfl, by omega, by rw [hn0]; exact drewN_below (drewN_below (Below.refl _ _) _) _⟩

set_option maxRecDepth 20000 in
set_option maxHeartbeats 1000000 in
theorem indexRune_err (w : World) : Calls Tryf.prog 54 #[.string ⟨#[32, 10]⟩, .int .i32 65533] w (IdxPost 65533 w) := by
  go_enter Tryf.func54, Tryf.ntmps54
  go_wp2
  go_loopw [5, 6] (fun _ _ wr => ∃ p, p ≤ 2 ∧ wr = w.iter ⟨#[32, 10]⟩ p) (fun _ _ wr => 2 - wr.iterPos w.heap.size)
  case atStart => exact ⟨0, by omega, rfl⟩
  case round =>
    obtain ⟨p, hp, rfl⟩ := hrel
    have hp3 : p = 0 ∨ p = 1 ∨ p = 2 := by omega
    rcases hp3 with rfl | rfl | rfl
    · have hnx := fun t => run_next_ascii (P := Tryf.prog) w ⟨#[32, 10]⟩ 0 t (by decide) (by decide)
      go_wp2
      exact ⟨⟨1, by omega, rfl⟩, by simp⟩
    · have hnx := fun t => run_next_ascii (P := Tryf.prog) w ⟨#[32, 10]⟩ 1 t (by decide) (by decide)
      go_wp2
      exact ⟨⟨2, by omega, rfl⟩, by simp⟩
    · have hnx := fun t => run_next_end (P := Tryf.prog) w ⟨#[32, 10]⟩ 2 t (by decide)
      go_wp2
      go_ret
      exact ⟨-1, rfl, by omega, (Below.refl _ _).alloc (Nat.le_refl _) _⟩

theorem indexRune (r : Int) (w : World) (h0 : 0 ≤ r) : Calls Tryf.prog 54 #[.string ⟨#[32, 10]⟩, .int .i32 r] w (IdxPost r w) := by
  by_cases h1 : r < 128
  · exact indexRune_ascii r w h0 h1
  · by_cases h2 : r = 65533
    · subst h2; exact indexRune_err w
    · by_cases h3 : r < 2048
      · exact indexRune_two r w (by omega) h3
      · cases hv : Lib.validRune r with
        | true => exact indexRune_more r w (by omega) h2 hv
        | false => exact indexRune_bad r w (by omega) h2 hv

theorem decode_past (s : ByteArray) (pos : Nat) (h0 : 128 ≤ (s.get! (pos + 0)).toNat) : ∀ k, k < (Utf8.decode s pos).2 → 128 ≤ (s.get! (pos + k)).toNat := by
  intro k
  simp only [Utf8.decode]
  have key : ∀ j, (decide (pos + j < s.size) && (s.get! (pos + j)).toNat / 64 == 2) = true → 128 ≤ (s.get! (pos + j)).toNat := fun j h => by
    simp only [Bool.and_eq_true, beq_iff_eq] at h
    omega
  have zero : ∀ {m : Nat}, m = 1 → k < m → 128 ≤ (s.get! (pos + k)).toNat := fun hm hk => by
    have : k = 0 := by omega
    rw [this]; exact h0
  split
  · exact zero rfl
  · split
    · rename_i h1
      rw [Bool.and_eq_true] at h1
      split
      · intro hk
        rcases k with _ | _ | k
        · exact h0
        · exact key 1 h1.2
        · exact absurd hk (by simp)
      · exact zero rfl
    · split
      · rename_i h1
        rw [Bool.and_eq_true, Bool.and_eq_true] at h1
        split
        · intro hk
          rcases k with _ | _ | _ | k
          · exact h0
          · exact key 1 h1.1.2
          · exact key 2 h1.2
          · exact absurd hk (by simp)
        · exact zero rfl
      · split
        · rename_i h1
          rw [Bool.and_eq_true, Bool.and_eq_true, Bool.and_eq_true] at h1
          split
          · intro hk
            rcases k with _ | _ | _ | _ | k
            · exact h0
            · exact key 1 h1.1.1.2
            · exact key 2 h1.1.2
            · exact key 3 h1.2
            · exact absurd hk (by simp)
          · exact zero rfl
        · exact zero rfl

/-- No blank and no newline ahead of place p. -/
def Clean (x : ByteArray) (p : Nat) : Prop := ∀ j, j < p → ∀ (h : j < x.size), ¬ ((x[j].toNat : Int) = 32 ∨ (x[j].toNat : Int) = 10)

theorem Clean.all {x : ByteArray} {p : Nat} (h : Clean x p) (hp : x.size ≤ p) : blankB x = false := by
  apply Bool.eq_false_iff.2
  unfold blankB
  rw [ne_eq, List.any_eq_true]
  rintro ⟨c, hc, h2⟩
  obtain ⟨j, hj, rfl⟩ := List.getElem_of_mem hc
  have hx : x.data.toList[j] = x[j]'hj := rfl
  refine h j (Nat.lt_of_lt_of_le hj hp) hj ?_
  rw [hx] at h2
  simp only [Bool.or_eq_true, beq_iff_eq] at h2
  rcases h2 with e | e
  · left; rw [e]; rfl
  · right; rw [e]; rfl

theorem Clean.step {x : ByteArray} {p : Nat} (h : Clean x p) (hp : p < x.size) (hn : ¬ (((Utf8.decode x p).1 : Int) = 32 ∨ ((Utf8.decode x p).1 : Int) = 10)) : Clean x (p + (Utf8.decode x p).2) := by
  intro j hj hx
  by_cases hjp : j < p
  · exact h j hjp hx
  · by_cases ha : (x[p]'hp).toNat < 128
    · rw [decode_ascii x p hp ha] at hj hn
      have : j = p := by simp at hj; omega
      subst this
      exact hn
    · have hh := decode_past x p (by rw [get_at x p hp]; omega) (j - p) (by omega)
      rw [show p + (j - p) = j by omega] at hh
      have e : x.get! j = x[j] := by have := get_at x j hx; simpa using this
      rw [e] at hh
      omega

theorem hit_blank {x : ByteArray} {p : Nat} (hp : p < x.size) (hn : ((Utf8.decode x p).1 : Int) = 32 ∨ ((Utf8.decode x p).1 : Int) = 10) : blankB x = true := by
  by_cases ha : (x[p]'hp).toNat < 128
  · rw [decode_ascii x p hp ha] at hn
    exact blank_hit hp hn
  · have := (decode_high x p hp (by omega)).1
    omega

/-- The string's cursor in block k stands at p. -/
def setIter (w : World) (k : Nat) (s : ByteArray) (p : Nat) : World := { w with heap := w.heap.setIfInBounds k (.stringIter s p) }

theorem run_next_at {P : Program} (w : World) (k : Nat) (s : ByteArray) (pos : Nat) (ty : TypeId) (hk : w.heap[k]? = some (.stringIter s pos)) (h : pos < s.size) :
    (Instr.next (.pointer (some ⟨k, 0, none⟩)) true ty).run P w = .ok (.tuple #[.bool true, .int .i64 pos, .int .i32 (Utf8.decode s pos).1]) (setIter w k s (pos + (Utf8.decode s pos).2)) := by
  simp only [Instr.next, getObj, setObj, Sem.run_bind, Sem.run, hk, Result.andThen, h, if_true]
  simp [goInt, setIter]
theorem run_next_at_end {P : Program} (w : World) (k : Nat) (s : ByteArray) (pos : Nat) (ty : TypeId) (hk : w.heap[k]? = some (.stringIter s pos)) (h : ¬ pos < s.size) :
    (Instr.next (.pointer (some ⟨k, 0, none⟩)) true ty).run P w = .ok (.tuple #[.bool false]) w := by
  simp [Instr.next, getObj, Sem.run, hk, h]
end Go.Proofs.Qxb6616082aFmt
