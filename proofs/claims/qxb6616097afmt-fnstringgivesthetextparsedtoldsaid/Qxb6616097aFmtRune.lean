import Derived.Test.Qxb6616097aFmtState
import Derived.Test.Qxb6616097aFmtShelf
import Derived.Laws.Runes
import Derived.WalkMore
namespace Go.Proofs.Qxb6616097aFmt
open Go.RowKit Go.Extern.Stop Go.Stop Go.Extern

theorem encode_two (r : Int) (h0 : 128 ≤ r) (h1 : r < 256) : ∃ a b : UInt8, Utf8.encode r = ⟨#[a, b]⟩ ∧ 128 ≤ b.toNat := by
  have hv : Utf8.valid r = true := by simp [Utf8.valid]; omega
  have hc : ¬ r.toNat < 128 := by omega
  have hd : r.toNat < 2048 := by omega
  refine ⟨UInt8.ofNat (192 + r.toNat / 64), UInt8.ofNat (128 + r.toNat % 64), by unfold Utf8.encode; simp only [hv, if_true, if_neg hc, if_pos hd], ?_⟩
  simp; omega

set_option maxRecDepth 20000 in
set_option maxHeartbeats 1000000 in
theorem indexRune_big (r : Int) (w : World) (h0 : 128 ≤ r) (h1 : r < 256) :
    Calls Tryf.prog 67 #[.string ⟨#[47, 58, 42, 123, 125]⟩, .int .i32 r] w fun e w' => e = .returned (.int .i64 (-1)) ∧ ∃ n, w' = w.drewN n := by
  have hv : Lib.validRune r = true := by simp [Lib.validRune]; omega
  obtain ⟨a, b, he, hb⟩ := encode_two r h0 h1
  have hconv : ∀ w, (convert 21 9 (.int .i32 r)).run Tryf.prog w = .ok (.string ⟨#[a, b]⟩) w := fun w => by
    rw [run_convert_int_string w 21 9 .i32 r (by kernel_rfl) (by kernel_rfl), he]
  have hsz : (⟨#[a, b]⟩ : ByteArray).size = 2 := rfl
  have hx : ((((⟨#[47, 58, 42, 123, 125]⟩ : ByteArray)[1]'(by decide)).toNat : Int) != (((⟨#[a, b]⟩ : ByteArray)[1]'(by rw [hsz]; decide)).toNat : Int)) = true := by
    have e1 : (⟨#[47, 58, 42, 123, 125]⟩ : ByteArray)[1]'(by decide) = 58 := rfl
    have e2 : (⟨#[a, b]⟩ : ByteArray)[1]'(by rw [hsz]; decide) = b := rfl
    rw [e1, e2]
    have : (58 : UInt8).toNat = 58 := rfl
    simp; omega
  have hix : ∀ l : List UInt8, (∀ c ∈ l, c.toNat < 128) → Lib.indexByte l b = -1 := by
    intro l
    induction l with
    | nil => intro _; rfl
    | cons c l ih =>
      intro hl
      have h2 : (c == b) = false := by
        have := hl c (by simp)
        simp; intro e; subst e; omega
      simp [Lib.indexByte, h2, ih fun c hc => hl c (by simp [hc])]
  have hib : Hid (∀ w, Calls Tryf.prog 59 #[.string ((⟨#[47, 58, 42, 123, 125]⟩ : ByteArray).extract 2 5), .int .u8 ((((⟨#[a, b]⟩ : ByteArray)[1]'(by rw [hsz]; decide)).toNat : Nat) : Int)] w fun e w' => e = .returned (.int .i64 (-1)) ∧ w' = w) := fun w => by
    refine (Tryf.strings_IndexByte _ _ _).mono fun e w' ⟨h1, h2⟩ => ⟨?_, h2⟩
    rw [h1]
    have e2 : (⟨#[a, b]⟩ : ByteArray)[1]'(by rw [hsz]; decide) = b := rfl
    rw [e2, Int.toNat_natCast, show b.toNat.toUInt8 = b from by simp, hix]
    decide
  clear he hix
  go_enter Tryf.func67, Tryf.ntmps67
  go_wp2_with (go_at_call 74; refine (Tryf.utf8_ValidRune r _).mono ?_; rintro e w' ⟨rfl, rfl⟩)
  go_step3
  go_wp2
  go_loop [9, 10] (fun i f => i = .int .i64 1 ∧ f = .int .i64 0) (fun _ _ => 0)
  case atStart => exact ⟨rfl, rfl⟩
  case round =>
    obtain ⟨rfl, rfl⟩ := hrel
    go_wp2
    go_step3
    go_wp2
    go_quiet (fail)
    go_wp2
    have HBZ : Hid (∃ n, w'.drewN nq = w'.drewN n) := ⟨nq, rfl⟩
    generalize w'.drewN nq = wz at HBZ ⊢
    go_quiet ((go_at_call 59; exact Calls.quiet_of_same (hib.out _)))
    go_wp2
    refine (show bodyPost Tryf.prog Tryf.f67 (fun e w'_1 => e = .returned (.int .i64 (-1)) ∧ ∃ n, w'_1 = w'.drewN n) .ret _ _ from ?_)
    go_ret
    obtain ⟨n0, hn0⟩ := HBZ.out
    exact ⟨rfl, n0 + nq, by rw [hn0, World.drewN_drewN]⟩

/-- Is the byte one of the five signs of a template? -/
def specB (b : UInt8) : Bool := b == 47 || b == 58 || b == 42 || b == 123 || b == 125

theorem spec_idx (b : UInt8) : decide (0 ≤ Lib.indexByte [47, 58, 42, 123, 125] b) = specB b := by
  have h : ∀ n : Fin 256, decide (0 ≤ Lib.indexByte [47, 58, 42, 123, 125] (UInt8.ofNat n.val)) = specB (UInt8.ofNat n.val) := by decide +kernel
  have := h ⟨b.toNat, b.toNat_lt⟩
  simpa using this

theorem containsRune (b : UInt8) (w : World) :
    Calls Tryf.prog 56 #[.string ⟨#[47, 58, 42, 123, 125]⟩, .int .i32 (b.toNat : Int)] w fun e w' => e = .returned (.bool (specB b)) ∧ ∃ n, w' = w.drewN n := by
  by_cases h : b.toNat < 128
  · refine (Tryf.strings_ContainsRune_ascii ⟨#[47, 58, 42, 123, 125]⟩ (b.toNat : Int) w (by omega) (by omega)).mono fun e w' ⟨h1, h2⟩ => ⟨?_, 0, h2⟩
    rw [h1, Int.toNat_natCast, show b.toNat.toUInt8 = b from by simp]
    exact congrArg (fun x => Ending.returned (.bool x)) (spec_idx b)
  · have hb : b.toNat < 256 := b.toNat_lt
    have hs : specB b = false := by
      have h2 : ∀ c : UInt8, c.toNat < 128 → (b == c) = false := fun c hc => by
        simp; intro e; subst e; omega
      simp [specB, h2 47 (by decide), h2 58 (by decide), h2 42 (by decide), h2 123 (by decide), h2 125 (by decide)]
    rw [hs]
    have h0 : (128 : Int) ≤ (b.toNat : Int) := by omega
    have h1 : (b.toNat : Int) < 256 := by omega
    generalize (b.toNat : Int) = r at h0 h1 ⊢
    go_enter Tryf.func56, Tryf.ntmps56
    go_wp2_with (go_at_call 67; refine (indexRune_big r _ h0 h1).mono ?_; rintro e w' ⟨rfl, hn⟩)
    go_ret
    exact ⟨rfl, hn⟩
end Go.Proofs.Qxb6616097aFmt
