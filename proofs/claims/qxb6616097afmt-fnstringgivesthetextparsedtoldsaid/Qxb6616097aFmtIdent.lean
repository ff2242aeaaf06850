import Derived.Test.Qxb6616097aFmtState
import Derived.Deep.Light
namespace Go.Proofs.Qxb6616097aFmt
open Go.RowKit Go.Extern.Stop Go.Stop Go.Extern

section
variable {F : Interp} {W0 : World} {pb tb : Nat} {s verb : ByteArray} {i d : Nat} {w w' : World}

def IdentPost (F : Interp) (W0 : World) (pb tb : Nat) (s verb : ByteArray) (i d : Nat) (e : Ending) (w' : World) : Prop :=
  ∃ b j, e = .returned (.bool b) ∧ PS F W0 pb tb s verb j (d + (j - i)) w' ∧ Adv s i j

theorem not_colon {j : Nat} (hi : j < s.size) (h : (s[j].toNat : Int) ≠ 58) : s.data[j]? ≠ some 58 := by
  have h2 : s.data[j]? = some s[j] := Array.getElem?_eq_getElem (by exact hi)
  rw [h2]
  intro e
  have := Option.some.inj e
  rw [this] at h
  exact h rfl

theorem round_end {j : Nat} {wr X : World} (hk : PS F W0 pb tb s verb j (d + (j - i)) wr) (ha : Adv s i j) (hij : i ≤ j) (hi : j < s.size) (hne : s.data[j]? ≠ some 58) (hp : PS F W0 pb tb s verb (j + 1) (d + (j + 1 - i)) X) :
    (∃ j1, i ≤ j1 ∧ Hid (PS F W0 pb tb s verb j1 (d + (j1 - i)) X) ∧ Hid (Adv s i j1)) ∧ s.size - posOf pb X < s.size - posOf pb wr :=
  ⟨⟨j + 1, by omega, hp, ha.trans (Adv.one hne)⟩, by rw [hk.pos, hp.pos]; omega⟩

set_option maxRecDepth 20000 in
set_option maxHeartbeats 2000000 in
theorem ident (h : PS F W0 pb tb s verb i d w) : Calls Tryf.prog 80 #[.pointer (some ⟨pb, 0, none⟩)] w (IdentPost F W0 pb tb s verb i d) := by
  have c1 := h.c1
  have hle := h.le
  have hsz := h.sz
  have HP : Hid (PS F W0 pb tb s verb i d w) := h
  clear h
  go_enter Tryf.func80, Tryf.ntmps80
  go_wp2
  go_loopw [4] (fun _ wr => ∃ j, i ≤ j ∧ Hid (PS F W0 pb tb s verb j (d + (j - i)) wr) ∧ Hid (Adv s i j)) (fun _ wr => s.size - posOf pb wr)
  case atStart => exact ⟨i, Nat.le_refl _, by rw [Nat.sub_self]; exact HP.out, Adv.refl _ _⟩
  case round =>
    obtain ⟨j, hij, HK, HA⟩ := hrel
    have d0 := HK.out.c0
    have d1 := HK.out.c1
    have df := HK.out.fz 1
    have hk := HK.out.le
    clear c1 HP
    by_cases hi : j < s.size
    · have hi' : (j : Int) < (s.size : Int) := by omega
      go_wp2
      go_quiet (fail)
      go_wp2
      go_quiet (fail)
      go_wp2
      all_goals first
        | (go_ret
           exact ⟨_, j, rfl, HK.out.drewN _, HA.out⟩)
        | (have hne : s.data[j]? ≠ some 58 := not_colon hi (by
             go_light
             clear HK HA
             intro e
             simp_all)
           exact round_end HK.out HA.out hij hi hne ((HK.out.drewN _).setI (i' := j + 1) (d' := d + (j + 1 - i)) (by omega) (by omega)))
        | (exfalso
           go_light
           clear HK HA
           simp_all <;> omega)
    · have hi' : decide ((j : Int) < (s.size : Int)) = false := by simp; omega
      go_wp2
      go_quiet (fail)
      go_wp2
      go_ret
      exact ⟨_, j, rfl, HK.out.drewN _, HA.out⟩
end
end Go.Proofs.Qxb6616097aFmt
