import Derived.Test.Qxb6616097aFmtIdent
import Derived.Test.Qxb6616097aFmtConsume
import Derived.Test.Qxb6616097aFmtErrorf
namespace Go.Proofs.Qxb6616097aFmt
open Go.RowKit Go.Extern.Stop Go.Stop Go.Extern

section
variable {F : Interp} {W0 : World} {pb tb : Nat} {s verb : ByteArray} {i d : Nat} {w w' : World}

def FPPost (F : Interp) (W0 : World) (pb tb : Nat) (s verb : ByteArray) (i d : Nat) (e : Ending) (w' : World) : Prop :=
  ∃ j, Adv s i j ∧ PS F W0 pb tb s verb j d w' ∧ ((∃ t, e = .returned (.tuple #[.string t, .nilIface])) ∨ ∃ g, e = .returned (.tuple #[.string ⟨#[]⟩, .iface 84 (.pointer (some ⟨g, 0, none⟩))]))

set_option maxRecDepth 20000 in
set_option maxHeartbeats 2000000 in
theorem fieldPath (h : PS F W0 pb tb s verb i d w) : Calls Tryf.prog 73 #[.pointer (some ⟨pb, 0, none⟩)] w (FPPost F W0 pb tb s verb i d) := by
  have c1 := h.c1
  have hle := h.le
  have hsz := h.sz
  have HP : Hid (PS F W0 pb tb s verb i d w) := h
  clear h
  go_enter Tryf.func73, Tryf.ntmps73
  go_wp2
  go_loopw [9] (fun _ wr => ∃ j, i ≤ j ∧ Hid (PS F W0 pb tb s verb j d wr) ∧ Hid (Adv s i j)) (fun _ wr => s.size - posOf pb wr)
  case atStart => exact ⟨i, Nat.le_refl _, HP.out, Adv.refl _ _⟩
  case round =>
    obtain ⟨j, hij, HK, HA⟩ := hrel
    clear c1 HP
    go_wp2_with (first
      | (go_at_call 80; refine (ident HK.out).mono ?_; rintro e w1 ⟨b, j1, rfl, hk1, ha1⟩; have HK1 : Hid (PS F W0 pb tb s verb j1 (d + (j1 - j)) w1) := hk1; have HA1 : Hid (Adv s j j1) := ha1; have hj1 := hk1.le; have hjj := ha1.1; clear hk1 ha1)
      | (go_at_call 52; refine (errorf_noName HK1.out).mono ?_; rintro e w2 ⟨g, rfl, hk2⟩; have HK2 : Hid (PS F W0 pb tb s verb j1 (d + (j1 - j)) w2) := hk2; clear hk2)
      | (go_at_call 48; refine (consume' 46 HK1.out).mono ?_; rintro e w2 ⟨b2, rfl, HC⟩))
    · refine bodyPost_ret (v := .tuple #[.string ⟨#[]⟩, .iface 84 (.pointer (some ⟨g, 0, none⟩))]) (by simp [results, Tryf.results73, go_sem]) rfl ?_
      exact ⟨j1, HA.out.trans HA1.out, HK2.out.less (by omega), .inr ⟨g, rfl⟩⟩
    · rename_i hb2 _ _
      have hk2 := HC.out.1 (by simpa using hb2)
      have e0 := hk2.c0
      have e1 := hk2.c1
      have HK2 : Hid (PS F W0 pb tb s verb j1 (d + (j1 - j)) w2) := hk2
      have q1 : (i : Int) ≤ (j1 : Int) := by omega
      have q2 : (j1 : Int) ≤ (s.size : Int) := by omega
      clear hk2
      go_quiet (fail)
      go_wp2
      refine bodyPost_ret (v := .tuple #[.string (s.extract i j1), .nilIface]) (by simp [results, Tryf.results73, go_sem]) rfl ?_
      exact ⟨j1, HA.out.trans HA1.out, (HK2.out.less (by omega)).drewN _, .inl ⟨_, rfl⟩⟩
    · rename_i hb2
      obtain ⟨h1, h2, h3⟩ := HC.out.2 (by simpa using hb2)
      refine ⟨⟨j1 + 1, by omega, h3.less (by omega), HA.out.trans (HA1.out.trans (Adv.one (byte_ne h2 (by decide))))⟩, ?_⟩
      rw [h3.pos, HK.out.pos]
      omega
end
end Go.Proofs.Qxb6616097aFmt
