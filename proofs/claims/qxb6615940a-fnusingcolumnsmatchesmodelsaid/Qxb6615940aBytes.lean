import Derived.Test.Qxb6615940aIdent
namespace Go.Proofs.Qxb6615940a
open Go.RowKit

/-- A slice of strings that can be read: its elements. -/
def StrRow (w : World) (a : Option Addr) (len : Nat) (us : List ByteArray) : Prop :=
  us.length = len ∧ (0 < len → ∃ b off, a = some ⟨b, off, none⟩ ∧ b < w.heap.size ∧ ∀ i s, us[i]? = some s → w.cell? ⟨b, off + i, none⟩ = some (.string s))

/-- A slice of pairs of strings. -/
def ColRow (w : World) (a : Option Addr) (len : Nat) (cs : List (ByteArray × ByteArray)) : Prop :=
  cs.length = len ∧ (0 < len → ∃ b off, a = some ⟨b, off, none⟩ ∧ b < w.heap.size ∧ ∀ i c, cs[i]? = some c → w.cell? ⟨b, off + i * 2, none⟩ = some (.string c.1) ∧ w.cell? ⟨b, off + i * 2 + 1, none⟩ = some (.string c.2))

theorem StrRow.at {w : World} {a : Option Addr} {len : Nat} {us : List ByteArray} (h : StrRow w a len us) {k : Nat} (hk : k < len) :
    ∃ b off s, a = some ⟨b, off, none⟩ ∧ b < w.heap.size ∧ us[k]? = some s ∧ w.cell? ⟨b, off + k, none⟩ = some (.string s) := by
  obtain ⟨hl, h⟩ := h
  obtain ⟨b, off, rfl, hb, hc⟩ := h (by omega)
  have e : us[k]? = some (us[k]'(by omega)) := List.getElem?_eq_getElem _
  exact ⟨b, off, _, rfl, hb, e, hc _ _ e⟩

theorem ColRow.at {w : World} {a : Option Addr} {len : Nat} {cs : List (ByteArray × ByteArray)} (h : ColRow w a len cs) {k : Nat} (hk : k < len) :
    ∃ b off s t, a = some ⟨b, off, none⟩ ∧ b < w.heap.size ∧ cs[k]? = some (s, t) ∧ w.cell? ⟨b, off + k * 2, none⟩ = some (.string s) ∧ w.cell? ⟨b, off + k * 2 + 1, none⟩ = some (.string t) := by
  obtain ⟨hl, h⟩ := h
  obtain ⟨b, off, rfl, hb, hc⟩ := h (by omega)
  have e : cs[k]? = some (cs[k]'(by omega)) := List.getElem?_eq_getElem _
  exact ⟨b, off, _, _, rfl, hb, e, (hc _ _ e).1, (hc _ _ e).2⟩

/-- What is known of the sizes behind the guard. -/
structure Small (nm kd tx ct cl tb : ByteArray) (len1 len7 : Nat) (cs : List (ByteArray × ByteArray)) (us : List ByteArray) : Prop where
  hnm : nm.size ≤ 1048576
  hkd : kd.size ≤ 1048576
  htx : tx.size ≤ 1048576
  hct : ct.size ≤ 1048576
  hcl : cl.size ≤ 1048576
  htb : tb.size ≤ 1048576
  h1 : len1 ≤ 1048576
  h7 : len7 ≤ 1048576
  hcs : ∀ (j : Nat) (c : ByteArray × ByteArray), cs[j]? = some c → c.1.size ≤ 1048576 ∧ c.2.size ≤ 1048576
  hus : ∀ (j : Nat) (u : ByteArray), us[j]? = some u → u.size ≤ 1048576

def Guarded (p : Prop) (e : Ending) : Prop := e = .returned (.bool false) ∨ (e = .returned (.bool true) ∧ p)
theorem Guarded.no {p : Prop} : Guarded p (.returned (.bool false)) := .inl rfl
theorem Guarded.yes {p : Prop} (h : p) : Guarded p (.returned (.bool true)) := .inr ⟨rfl, h⟩

theorem Try.cells26 : Try.prog.cellsOf 26 = 2 := by kernel_rfl

set_option maxRecDepth 20000 in
set_option maxHeartbeats 2000000 in
theorem zzBytes (nm kd tx ct cl tb : ByteArray) (a1 a7 : Option Addr) (len1 cap1 len7 cap7 : Nat) (cs : List (ByteArray × ByteArray)) (us : List ByteArray) (w : World)
    (h1 : ColRow w a1 len1 cs) (h7 : StrRow w a7 len7 us) :
    Calls Try.prog 4 #[.string nm, .slice a1 len1 cap1, .string kd, .string tx, .string ct, .string cl, .string tb, .slice a7 len7 cap7] w fun e w' => w = w' ∧ Guarded (Small nm kd tx ct cl tb len1 len7 cs us) e := by
  go_enter Try.func4, Try.ntmps4
  go_wp2
  any_goals (go_ret; exact ⟨rfl, Guarded.no⟩)
  go_loop [17, 18] (fun z i => ∃ k m : Nat, k ≤ len1 ∧ i = .int .i64 k ∧ z = .int .i64 m ∧ m ≤ 1048576 ∧ Hid (∀ j c, j < k → cs[j]? = some c → c.1.size ≤ 1048576 ∧ c.2.size ≤ 1048576)) (fun _ i => len1 - (intOf i).toNat)
  case atStart => exact ⟨0, nm.size + len1, Nat.zero_le _, rfl, by go_num, by omega, fun j c hj => absurd hj (Nat.not_lt_zero _)⟩
  case round =>
    obtain ⟨k, m, hk, rfl, rfl, hm, hb⟩ := hrel
    by_cases hlt : k < len1
    · obtain ⟨b, off, s, t, rfl, hbw, hck, c1, c2⟩ := h1.at hlt
      have HCK : Hid (cs[k]? = some (s, t)) := hck
      clear hck h1 h7
      have c26 := Try.cells26
      go_wp2
      any_goals (go_ret; exact ⟨rfl, Guarded.no⟩)
      go_round
      case rel =>
        refine ⟨k + 1, m + s.size + t.size, by omega, by go_num, by go_num, by omega, fun j c hj hc => ?_⟩
        by_cases e : j = k
        · subst e
          have := HCK.out.symm.trans hc
          simp only [Option.some.injEq] at this
          subst this
          exact ⟨by show s.size ≤ _; omega, by show t.size ≤ _; omega⟩
        · exact hb.out j c (by omega) hc
      case measure => simp [intOf]; omega
    · have HC : Hid (∀ (j : Nat) (c : ByteArray × ByteArray), cs[j]? = some c → c.1.size ≤ 1048576 ∧ c.2.size ≤ 1048576) := fun j c hj => by
        have hlen := h1.1
        have := (List.getElem?_eq_some_iff.1 hj).1
        exact hb.out j c (by omega) hj
      clear hb
      go_wp2
      any_goals (go_ret; exact ⟨rfl, Guarded.no⟩)
      go_loop [17, 19] (fun z i => ∃ k m : Nat, k ≤ len7 ∧ i = .int .i64 k ∧ z = .int .i64 m ∧ m ≤ 1048576 ∧ Hid (∀ (j : Nat) (u : ByteArray), j < k → us[j]? = some u → u.size ≤ 1048576)) (fun _ i => len7 - (intOf i).toNat)
      case atStart => exact ⟨0, m + kd.size + tx.size + ct.size + cl.size + tb.size + len7, Nat.zero_le _, rfl, by go_num, by omega, fun j c hj => absurd hj (Nat.not_lt_zero _)⟩
      case round =>
        obtain ⟨q, m2, hq, rfl, rfl, hm2, hb⟩ := hrel
        by_cases hlt7 : q < len7
        · obtain ⟨b, off, s, rfl, hbw, hck, c1⟩ := h7.at hlt7
          have HCK : Hid (us[q]? = some s) := hck
          clear hck h1 h7
          go_wp2
          any_goals (go_ret; exact ⟨rfl, Guarded.no⟩)
          go_round
          case rel =>
            refine ⟨q + 1, m2 + s.size, by omega, by go_num, by go_num, by omega, fun j c hj hc => ?_⟩
            by_cases e : j = q
            · subst e
              have := HCK.out.symm.trans hc
              simp only [Option.some.injEq] at this
              subst this
              omega
            · exact hb.out j c (by omega) hc
          case measure => simp [intOf]; omega
        · have HU : Hid (∀ (j : Nat) (u : ByteArray), us[j]? = some u → u.size ≤ 1048576) := fun j c hj => by
            have hlen := h7.1
            have := (List.getElem?_eq_some_iff.1 hj).1
            exact hb.out j c (by omega) hj
          clear hb
          go_wp2
          go_ret
          exact ⟨rfl, Guarded.yes ⟨by omega, by omega, by omega, by omega, by omega, by omega, by omega, by omega, HC.out, HU.out⟩⟩

end Go.Proofs.Qxb6615940a
