import Derived.Test.Qxb6617066aRows
import Derived.Test.Qxb6617066aPlain
import Derived.Test.Qxb6617066aShelf
import Derived.Lib.IndexLaws
import Derived.WalkKit
import Derived.Deep.Light
namespace Go.Proofs.Qxb6617066a
open Go.RowKit

/-- The block g holds the bytes xs from its head on. -/
structure BRow (w : World) (g : Nat) (xs : List Int) : Prop where
  cell : ∀ i, i < xs.length → w.cell? ⟨g, i, none⟩ = some (.int .u8 (xs.getD i 0))
  byte : ∀ x ∈ xs, 0 ≤ x ∧ x ≤ 255

theorem toByte_ten {x : Int} (h : 0 ≤ x ∧ x ≤ 255) : x.toNat.toUInt8 = (10 : UInt8) ↔ x = 10 := by
  constructor
  · intro e
    have := congrArg UInt8.toNat e
    simp at this
    omega
  · rintro rfl; rfl

theorem idx_none {xs : List Int} {i : Nat} (h : Lib.indexByte (Lib.bytesOf (xs.drop i)) 10 = -1) : ∀ p, i ≤ p → xs[p]? ≠ some 10 := by
  intro p hp e
  refine Lib.indexByte_none h (p - i) ?_
  simp only [Lib.bytesOf, List.getElem?_map, List.getElem?_drop]
  rw [show i + (p - i) = p from by omega, e]
  rfl

theorem idx_some {xs : List Int} {i o : Nat} (hb : ∀ x ∈ xs, 0 ≤ x ∧ x ≤ 255) (h : Lib.indexByte (Lib.bytesOf (xs.drop i)) 10 = o) : xs[i + o]? = some 10 ∧ ∀ p, i ≤ p → p < i + o → xs[p]? ≠ some 10 := by
  obtain ⟨h1, h2⟩ := Lib.indexByte_some h
  constructor
  · simp only [Lib.bytesOf, List.getElem?_map, List.getElem?_drop] at h1
    cases hx : xs[i + o]? with
    | none => rw [hx] at h1; cases h1
    | some x =>
      rw [hx] at h1
      have := (toByte_ten (hb x (List.mem_of_getElem? hx))).1 (by simpa using h1)
      rw [this]
  · intro p hp hlt e
    refine h2 (p - i) (by omega) ?_
    simp only [Lib.bytesOf, List.getElem?_map, List.getElem?_drop]
    rw [show i + (p - i) = p from by omega, e]
    rfl

theorem getD_ten {xs : List Int} {k : Nat} {z : Int} (hz : z ≠ 0) (h : xs[k]?.getD 0 = z) : xs[k]? = some z := by
  cases e : xs[k]? with
  | none => rw [e] at h; exact absurd h.symm hz
  | some x => rw [e] at h; simpa using h

theorem fin1 {xs : List Int} {a i o : Nat} (hp : xs[i + o]? = some 10) (hno : ∀ q f, a ≤ q → q < i + o → ¬ Cand xs q f) (ha : a ≤ i) (h : xs[i + (o + 1)]?.getD 0 = 10) : Least xs a (i + (o + 1) + 1) :=
  Least.of_first (p := i + o) (by omega) ⟨hp, .inl ⟨by omega, getD_ten (by decide) h⟩⟩ hno
theorem fin2 {xs : List Int} {a i o : Nat} (hp : xs[i + o]? = some 10) (hno : ∀ q f, a ≤ q → q < i + o → ¬ Cand xs q f) (ha : a ≤ i) (h1 : xs[i + (o + 1)]?.getD 0 = 13) (h2 : xs[i + (o + 1) + 1]?.getD 0 = 10) : Least xs a (i + (o + 1) + 2) :=
  Least.of_first (p := i + o) (by omega) ⟨hp, .inr ⟨by omega, getD_ten (by decide) h1, getD_ten (by decide) h2⟩⟩ hno
theorem nxt {xs : List Int} {a i o : Nat} (hno : ∀ q f, a ≤ q → q < i + o → ¬ Cand xs q f) (h1 : xs[i + (o + 1)]? ≠ some 10) (h2 : ¬ (xs[i + (o + 1)]? = some 13 ∧ xs[i + (o + 1) + 1]? = some 10)) : ∀ q f, a ≤ q → q < i + (o + 1) → ¬ Cand xs q f := by
  intro q f hq hlt hc
  by_cases h : q < i + o
  · exact hno q f hq h hc
  · have : q = i + o := by omega
    subst this
    rcases hc.2 with ⟨_, h3⟩ | ⟨_, h3, h4⟩
    · exact h1 h3
    · exact h2 ⟨h3, h4⟩

def HeadPost (w : World) (xs : List Int) (a : Nat) (e : Ending) (w' : World) : Prop := w' = w ∧ ∃ r : Nat, e = .returned (.int .i64 (r : Int)) ∧ Least xs a r

set_option maxRecDepth 20000 in
set_option maxHeartbeats 2000000 in
theorem headEnd (g n cap a : Nat) (xs : List Int) (w : World) (hx : xs.length = n) (hn : n ≤ cap) (hcap : cap ≤ 1048576) (ha : a ≤ n) (h : BRow w g xs) :
    Calls Try.prog 20 #[.slice (some ⟨g, 0, none⟩) n cap, .int .i64 (a : Int)] w (HeadPost w xs a) := by
  have HR : Hid (BRow w g xs) := h
  clear h
  go_enter Try.func20, Try.ntmps20
  go_wp2
  go_loop [5] (fun ix => ∃ i : Nat, i ≤ n ∧ ix = .int .i64 (i : Int) ∧ a ≤ i ∧ Hid (∀ q f, a ≤ q → q < i → ¬ Cand xs q f)) (fun ix => n - (intOf ix).toNat)
  case atStart => exact ⟨a, ha, rfl, Nat.le_refl _, fun q f h1 h2 => absurd h2 (by omega)⟩
  case round =>
    obtain ⟨i, hi, rfl, hai, HN⟩ := hrel
    have q1 : (i : Int) ≤ (n : Int) := by omega
    have q2 : (i : Int) ≤ (cap : Int) := by omega
    have hidx : ∀ (off c : Nat), (i < n → off = i) → Calls Try.prog 23 #[.slice (some ⟨g, off, none⟩) (n - i) c, .int .u8 10] w fun e w' => e = .returned (.int .i64 (Lib.indexByte (Lib.bytesOf (xs.drop i)) 10)) ∧ w' = w := fun off c ho => by
      refine (Try.bytes_IndexByte g off (n - i) c (xs.drop i) 10 w (by simp [hx]) ?_)
      intro k hk
      have hl := HR.out.cell (i + k) (by omega)
      rw [ho (by omega), hl, List.getD_eq_getElem?_getD, List.getD_eq_getElem?_getD, List.getElem?_drop]
    rcases (show Lib.indexByte (Lib.bytesOf (xs.drop i)) 10 = -1 ∨ ∃ o : Nat, Lib.indexByte (Lib.bytesOf (xs.drop i)) 10 = o from by
      have := Lib.indexByte_ge (Lib.bytesOf (xs.drop i)) 10
      by_cases e : Lib.indexByte (Lib.bytesOf (xs.drop i)) 10 = -1
      · exact .inl e
      · exact .inr ⟨(Lib.indexByte (Lib.bytesOf (xs.drop i)) 10).toNat, by omega⟩) with e | ⟨o, e⟩
    · have HX : Hid (∀ p, i ≤ p → xs[p]? ≠ some 10) := idx_none e
      have HI : Hid (∀ (off c : Nat), (i < n → off = i) → Calls Try.prog 23 #[.slice (some ⟨g, off, none⟩) (n - i) c, .int .u8 10] w fun e w' => e = .returned (.int .i64 (-1)) ∧ w' = w) := fun off c ho => by
        have := hidx off c ho; rw [e] at this; exact this
      clear hidx e
      have HL : Hid (Least xs a 0) := Least.none fun q f hq hc => by
        by_cases h : q < i
        · exact HN.out q f hq h hc
        · exact HX.out q (by omega) hc.1
      clear HX HN
      go_wp2_with (first | (go_at_call 23; fail))
      all_goals
        refine (HI.out _ _ (by intro h0; omega)).mono ?_
        rintro e w' ⟨rfl, rfl⟩
        go_wp2
        go_ret
        exact ⟨rfl, 0, rfl, HL.out⟩
    · obtain ⟨hp, hbefore⟩ := idx_some HR.out.byte e
      have HI : Hid (∀ (off c : Nat), (i < n → off = i) → Calls Try.prog 23 #[.slice (some ⟨g, off, none⟩) (n - i) c, .int .u8 10] w fun e w' => e = .returned (.int .i64 (o : Int)) ∧ w' = w) := fun off c ho => by
        have := hidx off c ho; rw [e] at this; exact this
      clear hidx e
      have hpn : i + o < n := by rw [← hx]; exact (List.getElem?_eq_some_iff.1 hp).1
      have HN2 : Hid (∀ q f, a ≤ q → q < i + o → ¬ Cand xs q f) := fun q f hq hlt hc => by
        by_cases h : q < i
        · exact HN.out q f hq h hc
        · exact hbefore q (by omega) hlt hc.1
      have HP : Hid (xs[i + o]? = some 10) := hp
      clear HN hbefore hp
      by_cases h1 : i + o + 1 < n
      · have y1 : w.cell? ⟨g, i + (o + 1), none⟩ = some (.int .u8 (xs.getD (i + (o + 1)) 0)) := HR.out.cell (i + (o + 1)) (by omega)
        by_cases h2 : i + o + 2 < n
        · have y2 : w.cell? ⟨g, i + (o + 1) + 1, none⟩ = some (.int .u8 (xs.getD (i + (o + 1) + 1) 0)) := HR.out.cell (i + (o + 1) + 1) (by omega)
          go_wp2_with (first | (go_at_call 23; fail))
          all_goals
            refine (HI.out _ _ (by intro h0; omega)).mono ?_
            rintro e w' ⟨rfl, rfl⟩
            go_wp2
            all_goals first
              | (go_ret
                 exact ⟨rfl, i + (o + 1) + 1, rfl, fin1 HP.out HN2.out hai (by simpa using ‹(xs[i + (o + 1)]?.getD 0 == 10) = true›)⟩)
              | (go_ret
                 exact ⟨rfl, i + (o + 1) + 2, rfl, fin2 HP.out HN2.out hai ‹xs[i + (o + 1)]?.getD 0 = 13› (by simpa using ‹(xs[i + (o + 1) + 1]?.getD 0 == 10) = true›)⟩)
              | (refine ⟨⟨i + (o + 1), by omega, rfl, by omega, nxt HN2.out (fun e => ?_) (fun e => ?_)⟩, by simp [intOf]; omega⟩
                 · have hl := (List.getElem?_eq_some_iff.1 e).1
                   first
                     | (exfalso; omega)
                     | (have hh := ‹(xs[i + (o + 1)]?.getD 0 == 10) = false›; rw [e] at hh; simp at hh)
                 · have hl := (List.getElem?_eq_some_iff.1 e.2).1
                   first
                     | (exfalso; omega)
                     | (have hh := ‹(xs[i + (o + 1) + 1]?.getD 0 == 10) = false›; rw [e.2] at hh; simp at hh)
                     | (have hh := ‹¬ xs[i + (o + 1)]?.getD 0 = 13›; rw [e.1] at hh; simp at hh))
        · go_wp2_with (first | (go_at_call 23; fail))
          all_goals
            refine (HI.out _ _ (by intro h0; omega)).mono ?_
            rintro e w' ⟨rfl, rfl⟩
            go_wp2
            all_goals first
              | (go_ret
                 exact ⟨rfl, i + (o + 1) + 1, rfl, fin1 HP.out HN2.out hai (by simpa using ‹(xs[i + (o + 1)]?.getD 0 == 10) = true›)⟩)
              | (go_ret
                 exact ⟨rfl, i + (o + 1) + 2, rfl, fin2 HP.out HN2.out hai ‹xs[i + (o + 1)]?.getD 0 = 13› (by simpa using ‹(xs[i + (o + 1) + 1]?.getD 0 == 10) = true›)⟩)
              | (refine ⟨⟨i + (o + 1), by omega, rfl, by omega, nxt HN2.out (fun e => ?_) (fun e => ?_)⟩, by simp [intOf]; omega⟩
                 · have hl := (List.getElem?_eq_some_iff.1 e).1
                   first
                     | (exfalso; omega)
                     | (have hh := ‹(xs[i + (o + 1)]?.getD 0 == 10) = false›; rw [e] at hh; simp at hh)
                 · have hl := (List.getElem?_eq_some_iff.1 e.2).1
                   first
                     | (exfalso; omega)
                     | (have hh := ‹(xs[i + (o + 1) + 1]?.getD 0 == 10) = false›; rw [e.2] at hh; simp at hh)
                     | (have hh := ‹¬ xs[i + (o + 1)]?.getD 0 = 13›; rw [e.1] at hh; simp at hh))
      · go_wp2_with (first | (go_at_call 23; fail))
        all_goals
          refine (HI.out _ _ (by intro h0; omega)).mono ?_
          rintro e w' ⟨rfl, rfl⟩
          go_wp2
          all_goals first
            | (go_ret
               exact ⟨rfl, i + (o + 1) + 1, rfl, fin1 HP.out HN2.out hai (by simpa using ‹(xs[i + (o + 1)]?.getD 0 == 10) = true›)⟩)
            | (go_ret
               exact ⟨rfl, i + (o + 1) + 2, rfl, fin2 HP.out HN2.out hai ‹xs[i + (o + 1)]?.getD 0 = 13› (by simpa using ‹(xs[i + (o + 1) + 1]?.getD 0 == 10) = true›)⟩)
            | (refine ⟨⟨i + (o + 1), by omega, rfl, by omega, nxt HN2.out (fun e => ?_) (fun e => ?_)⟩, by simp [intOf]; omega⟩
               · have hl := (List.getElem?_eq_some_iff.1 e).1
                 first
                   | (exfalso; omega)
                   | (have hh := ‹(xs[i + (o + 1)]?.getD 0 == 10) = false›; rw [e] at hh; simp at hh)
               · have hl := (List.getElem?_eq_some_iff.1 e.2).1
                 first
                   | (exfalso; omega)
                   | (have hh := ‹(xs[i + (o + 1) + 1]?.getD 0 == 10) = false›; rw [e.2] at hh; simp at hh)
                   | (have hh := ‹¬ xs[i + (o + 1)]?.getD 0 = 13›; rw [e.1] at hh; simp at hh))
end Go.Proofs.Qxb6617066a
