import Derived.Test.Qxb6616097aFmtRune
namespace Go.Proofs.Qxb6616097aFmt
open Go.RowKit Go.Extern.Stop Go.Stop Go.Extern

section
variable {F : Interp} {W0 : World} {pb tb : Nat} {s verb : ByteArray} {i d : Nat} {w w' : World}

def LitPost (F : Interp) (W0 : World) (pb tb : Nat) (s verb : ByteArray) (i d : Nat) (e : Ending) (w' : World) : Prop :=
  ∃ j, e = .returned (.string (s.extract i j)) ∧ PS F W0 pb tb s verb j (d + (j - i)) w' ∧ Adv s i j

theorem specB_not {b : UInt8} (h : specB b = false) : b ≠ 58 := by
  rintro rfl; simp [specB] at h

theorem wrap_byte (b : UInt8) : IntKind.i32.wrap (b.toNat : Int) = (b.toNat : Int) := by
  have := b.toNat_lt
  unfold IntKind.wrap
  simp [IntKind.bits, IntKind.signed]
  omega

set_option maxRecDepth 20000 in
set_option maxHeartbeats 1000000 in
theorem literal (h : PS F W0 pb tb s verb i d w) : Calls Tryf.prog 51 #[.pointer (some ⟨pb, 0, none⟩)] w (LitPost F W0 pb tb s verb i d) := by
  have c1 := h.c1
  have hle := h.le
  have hsz := h.sz
  have HP : Hid (PS F W0 pb tb s verb i d w) := h
  clear h
  go_enter Tryf.func51, Tryf.ntmps51
  go_wp2
  go_loopw [8] (fun _ wr => ∃ j, i ≤ j ∧ Hid (PS F W0 pb tb s verb j (d + (j - i)) wr) ∧ Hid (Adv s i j)) (fun _ wr => s.size - posOf pb wr)
  case atStart => exact ⟨i, Nat.le_refl _, by rw [Nat.sub_self]; exact HP.out, Adv.refl _ _⟩
  case round =>
    obtain ⟨j, hij, HK, HA⟩ := hrel
    have d0 := HK.out.c0
    have d1 := HK.out.c1
    have df := HK.out.fz 1
    have hk := HK.out.le
    have hb1 : (i : Int) ≤ (j : Int) := by omega
    have hb2 : (j : Int) ≤ (s.size : Int) := by omega
    clear c1 HP
    by_cases hi : j < s.size
    · have hi' : (j : Int) < (s.size : Int) := by omega
      have HC : Hid (∀ (r : Int) w, r = (s[j].toNat : Int) → Calls Tryf.prog 56 #[.string ⟨#[47, 58, 42, 123, 125]⟩, .int .i32 r] w fun e w' => e = .returned (.bool (specB s[j])) ∧ ∃ n, w' = w.drewN n) := fun r w hr => by subst hr; exact containsRune s[j] w
      have HW : Hid (IntKind.i32.wrap (s[j].toNat : Int) = (s[j].toNat : Int)) := wrap_byte s[j]
      generalize hsp : specB s[j] = sp at HC
      have HS : Hid (specB s[j] = sp) := hsp
      clear hsp
      go_wp2
      go_quiet ((go_at_call 56; exact Calls.quiet_of (HC.out _ _ HW.out)))
      go_wp2
      · rename_i hb
        have hps : PS F W0 pb tb s verb (j + 1) (d + (j + 1 - i)) ((wr.drewN nq).setCell ⟨pb, 1, none⟩ (.int .i64 ((j : Int) + 1))) := (HK.out.drewN nq).setI (by omega) (by omega)
        have hne : s.data[j]? ≠ some 58 := by
          have h2 : s.data[j]? = some s[j] := Array.getElem?_eq_getElem (by exact hi)
          have h3 : specB s[j] = false := by rw [HS.out]; simpa using hb
          rw [h2]; intro e; exact specB_not h3 (Option.some.inj e)
        exact ⟨⟨j + 1, by omega, hps, HA.out.trans (Adv.one hne)⟩, by rw [hps.pos, HK.out.pos]; omega⟩
      · go_quiet (fail)
        go_wp2
        go_ret
        exact ⟨j, rfl, (HK.out.drewN _).drewN _, HA.out⟩
    · have hi' : decide ((j : Int) < (s.size : Int)) = false := by simp; omega
      go_wp2
      go_quiet (fail)
      go_wp2
      go_quiet (fail)
      go_wp2
      go_ret
      exact ⟨j, rfl, (HK.out.drewN _).drewN _, HA.out⟩
end
end Go.Proofs.Qxb6616097aFmt
