import Derived.Test.Qxb6616097aFmtState
import Derived.Deep.QuietTactic
import Derived.BigQuiet
namespace Go.Proofs.Qxb6616097aFmt
open Go.RowKit Go.Extern.Stop Go.Stop Go.Extern

section
variable {F : Interp} {W0 : World} {pb tb : Nat} {s verb : ByteArray} {i d : Nat} {w w' : World}

def ConsumePost (F : Interp) (W0 : World) (pb tb : Nat) (s verb : ByteArray) (i d : Nat) (c : Int) (e : Ending) (w' : World) : Prop :=
  (e = .returned (.bool false) ∧ PS F W0 pb tb s verb i d w') ∨
  (e = .returned (.bool true) ∧ i < s.size ∧ s.data[i]? = some c.toNat.toUInt8 ∧ PS F W0 pb tb s verb (i + 1) (d + 1) w')

set_option maxRecDepth 20000 in
theorem consume (c : Int) (h : PS F W0 pb tb s verb i d w) :
    Calls Tryf.prog 48 #[.pointer (some ⟨pb, 0, none⟩), .int .u8 c] w (ConsumePost F W0 pb tb s verb i d c) := by
  have c0 := h.c0
  have c1 := h.c1
  have f1 := h.fz 1
  have hle := h.le
  have hsz := h.sz
  have HP : Hid (PS F W0 pb tb s verb i d w) := h
  clear h
  by_cases hi : i < s.size
  · have hi' : (i : Int) < (s.size : Int) := by omega
    go_enter Tryf.func48, Tryf.ntmps48
    go_wp2
    go_quiet (fail)
    go_wp2
    · rename_i hb
      go_ret
      exact .inr ⟨rfl, hi, byte_of hi hb, (HP.out.drewN nq).setI (by omega) (by omega)⟩
    · go_ret
      exact .inl ⟨rfl, HP.out.drewN nq⟩
  · have hi' : decide ((i : Int) < (s.size : Int)) = false := by simp; omega
    go_enter Tryf.func48, Tryf.ntmps48
    go_wp2
    go_quiet (fail)
    go_wp2
    go_ret
    exact .inl ⟨rfl, HP.out.drewN nq⟩

theorem byte_ne {j : Nat} {c : Int} (h : s.data[j]? = some c.toNat.toUInt8) (hc : c.toNat.toUInt8 ≠ 58) : s.data[j]? ≠ some 58 := by
  rw [h]; intro e; exact hc (Option.some.inj e)

/-- What is known behind p.consume(c), by what it handed back. -/
def CP (F : Interp) (W0 : World) (pb tb : Nat) (s verb : ByteArray) (i d : Nat) (c : Int) (b : Bool) (w' : World) : Prop :=
  (b = false → PS F W0 pb tb s verb i d w') ∧ (b = true → i < s.size ∧ s.data[i]? = some c.toNat.toUInt8 ∧ PS F W0 pb tb s verb (i + 1) (d + 1) w')

theorem consume' (c : Int) (h : PS F W0 pb tb s verb i d w) :
    Calls Tryf.prog 48 #[.pointer (some ⟨pb, 0, none⟩), .int .u8 c] w fun e w' => ∃ b, e = .returned (.bool b) ∧ Hid (CP F W0 pb tb s verb i d c b w') :=
  (consume c h).mono fun e w' h => by
    rcases h with ⟨he, hp⟩ | ⟨he, h1, h2, h3⟩
    · exact ⟨false, he, show CP _ _ _ _ _ _ _ _ _ _ _ from ⟨fun _ => hp, fun h => by cases h⟩⟩
    · exact ⟨true, he, show CP _ _ _ _ _ _ _ _ _ _ _ from ⟨(fun h => by cases h), fun _ => ⟨h1, h2, h3⟩⟩⟩
end
end Go.Proofs.Qxb6616097aFmt
