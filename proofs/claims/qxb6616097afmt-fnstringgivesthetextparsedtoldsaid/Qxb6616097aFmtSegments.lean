import Derived.Test.Qxb6616097aFmtSegment
namespace Go.Proofs.Qxb6616097aFmt
open Go.RowKit Go.Extern.Stop Go.Stop Go.Extern

section
variable {F : Interp} {W0 : World} {pb tb : Nat} {s verb : ByteArray} {i d : Nat} {w w' : World}

set_option maxRecDepth 20000 in
set_option maxHeartbeats 2000000 in
theorem segments (b : Bool) (h : PS F W0 pb tb s verb i d w) (hv : b = false → ∀ (i d : Nat) (w : World), PS F W0 pb tb s verb i (d + 1) w → Calls Tryf.prog 66 #[.pointer (some ⟨pb, 0, none⟩)] w (SegPost F W0 pb tb s verb i d)) :
    Calls Tryf.prog 50 #[.pointer (some ⟨pb, 0, none⟩), .bool b] w (SegPost F W0 pb tb s verb i d) := by
  have HP : Hid (PS F W0 pb tb s verb i d w) := h
  have HV : Hid (∀ (i d : Nat) (w : World), PS F W0 pb tb s verb i d w → Calls Tryf.prog 55 #[.pointer (some ⟨pb, 0, none⟩), .bool b] w (SegPost F W0 pb tb s verb i d)) := fun i d w h => segment b h hv
  clear h hv
  go_enter Tryf.func50, Tryf.ntmps50
  go_wp2
  go_loopw [6] (fun _ wr => ∃ j, Hid (PS F W0 pb tb s verb j d wr) ∧ Hid (Adv s i j)) (fun _ wr => s.size - posOf pb wr)
  case atStart => exact ⟨i, HP.out, Adv.refl _ _⟩
  case round =>
    obtain ⟨j, HK, HA⟩ := hrel
    clear HP
    go_wp2_with (first | (go_at_call 55; fail))
    refine (HV.out j d _ HK.out).mono ?_
    rintro e w1 ⟨j1, ha, (⟨rfl, hp⟩ | ⟨g, rfl, hp⟩)⟩
    · have HP1 : Hid (PS F W0 pb tb s verb j1 d w1) := hp
      have HA1 : Hid (Adv s j j1) := ha
      clear hp ha
      go_wp2_with (first | (go_at_call 48; refine (consume' _ (by exact HP1.out)).mono ?_; rintro e w2 ⟨b2, rfl, HC⟩))
      · rename_i hb
        go_ret
        exact ⟨j1, HA.out.trans HA1.out, .inl ⟨rfl, HC.out.1 (by simpa using hb)⟩⟩
      · rename_i hb
        obtain ⟨h1, h2, h3⟩ := HC.out.2 (by simpa using hb)
        refine ⟨⟨j1 + 1, h3.less (by omega), HA.out.trans (HA1.out.trans (Adv.one (byte_ne h2 (by decide))))⟩, ?_⟩
        have := HA1.out.1
        rw [h3.pos, HK.out.pos]
        omega
    · have HP1 : Hid (PS F W0 pb tb s verb j1 0 w1) := hp
      have HA1 : Hid (Adv s j j1) := ha
      clear hp ha
      go_wp2
      go_ret
      exact ⟨j1, HA.out.trans HA1.out, .inr ⟨g, rfl, HP1.out⟩⟩
end
end Go.Proofs.Qxb6616097aFmt
