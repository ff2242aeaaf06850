import Derived.Test.Qxb6616097aFmtLaw
namespace Go.Proofs.Qxb6616097aFmt
open Go.RowKit Go.Extern.Stop Go.Stop Go.Extern

theorem zzBytes (s : ByteArray) (w : World) : Calls Tryf.prog 20 #[.string s] w fun e w' => (∃ b, e = .returned (.bool b) ∧ (b = true → s.size ≤ 1048576)) ∧ w' = w := by
  go_enter Tryf.func20, Tryf.ntmps20
  go_wp2
  all_goals (go_ret; exact ⟨⟨_, rfl, fun h => by first | omega | cases h⟩, rfl⟩)

theorem first_unique {s : ByteArray} {a b : Nat} (ha : Adv s 0 a) (hb : Adv s 0 b) (h1 : s.data[a]? = some 58) (h2 : s.data[b]? = some 58) : a = b := by
  rcases Nat.lt_trichotomy a b with h | h | h
  · exact absurd h1 (hb.2 a (Nat.zero_le _) h)
  · exact h
  · exact absurd h2 (ha.2 b (Nat.zero_le _) h)

def VarSpec : Prop := ∀ (F : Interp) (W0 : World) (pb tb : Nat) (s verb : ByteArray) (i d : Nat) (w : World), PS F W0 pb tb s verb i (d + 1) w → Calls Tryf.prog 66 #[.pointer (some ⟨pb, 0, none⟩)] w (SegPost F W0 pb tb s verb i d)

set_option maxRecDepth 20000 in
set_option maxHeartbeats 2000000 in
theorem law (HVS : VarSpec) (F : Interp) (s : ByteArray) (w : World) (hF : F.answers w.tape) : Calls Tryf.prog 5 #[.string s] w fun e w' => e = .returned (.bool true) ∧ Below w.heap.size w w' := by
  by_cases hs : s.size ≤ 4096
  · have HP : Hid (PS F w (w.heap.size + 1) w.heap.size s ⟨#[]⟩ 0 0 ((w.alloc (.cells #[.string s, .slice none 0 0, .string ⟨#[]⟩, .slice none 0 0] 64)).alloc (.cells #[.string s, .int .i64 0, .pointer (some ⟨w.heap.size, 0, none⟩)] 66))) := PS.start s hF hs
    have HV : Hid VarSpec := HVS
    have hs' : (s.size : Int) ≤ 4096 := by omega
    clear hF HVS
    go_enter Tryf.func5, Tryf.ntmps5
    go_wp2_with (first
      | (go_at_call 20; refine (zzBytes s _).mono ?_; rintro e w1 ⟨⟨b, rfl, hb⟩, rfl⟩; clear hb)
      | (go_at_call 10; refine (newParser s _).mono ?_; rintro e w2 ⟨rfl, rfl⟩)
      | (go_at_call 11; fail))
    · go_ret
      exact ⟨rfl, Below.refl _ _⟩
    · refine (zzTemplate HP.out (HV.out F w1 (w1.heap.size + 1) w1.heap.size s ⟨#[]⟩)).mono ?_
      rintro e w2 ⟨vb, j, hp, (⟨rfl, hv⟩ | ⟨g, rfl⟩)⟩
      · have HP2 : Hid (PS F w1 (w1.heap.size + 1) w1.heap.size s vb j 0 w2) := hp
        clear HP HV hp
        rcases hv with ⟨rfl, ha⟩ | ⟨c, hc, hb, ha, hvb, hne⟩
        · have HI : Hid (∀ w, Calls Tryf.prog 16 #[.string s, .int .u8 58, .int .i64 0] w fun e w' => e = .returned (.int .i64 (-1)) ∧ w' = w) := fun w => by
            refine (indexColon s hs w).mono fun e w' ⟨h1, h2⟩ => ⟨?_, h1⟩
            rcases h2 with ⟨h2, _⟩ | ⟨c, hc, _, h3, _⟩
            · exact h2
            · exact absurd h3 (ha.2 c (Nat.zero_le _) hc)
          clear ha
          go_wp2_with (first
          | (go_at_call 14; refine (zzTemplateOf (by exact HP2.out)).mono ?_; rintro e w3 ⟨rfl, rfl⟩)
          | (go_at_call 21; refine (tmplString (by exact HP2.out)).mono ?_; rintro e w4 ⟨rfl, rfl⟩)
          | (go_at_call 18; refine (zzVerb (by exact HP2.out)).mono ?_; rintro e w5 ⟨rfl, rfl⟩)
          | (go_at_call 16; refine (HI.out _).mono ?_; rintro e w6 ⟨rfl, rfl⟩))
          go_ret
          exact ⟨rfl, HP2.out.bel⟩
        · have HI : Hid (∀ w, Calls Tryf.prog 16 #[.string s, .int .u8 58, .int .i64 0] w fun e w' => e = .returned (.int .i64 (c : Int)) ∧ w' = w) := fun w => by
            refine (indexColon s hs w).mono fun e w' ⟨h1, h2⟩ => ⟨?_, h1⟩
            rcases h2 with ⟨_, h2⟩ | ⟨c', hc', he, h3, h4⟩
            · exact absurd hb (h2.2 c (Nat.zero_le _) hc)
            · rw [he, first_unique ha h4 hb h3]
          have HE : Hid (vb = s.extract (c + 1) s.size) := hvb
          have hc' : (c : Int) < (s.size : Int) := by omega
          clear ha hvb hb
          go_wp2_with (first
          | (go_at_call 14; refine (zzTemplateOf (by exact HP2.out)).mono ?_; rintro e w3 ⟨rfl, rfl⟩)
          | (go_at_call 21; refine (tmplString (by exact HP2.out)).mono ?_; rintro e w4 ⟨rfl, rfl⟩)
          | (go_at_call 18; refine (zzVerb (by exact HP2.out)).mono ?_; rintro e w5 ⟨rfl, rfl⟩)
          | (go_at_call 16; refine (HI.out _).mono ?_; rintro e w6 ⟨rfl, rfl⟩))
          go_ret
          exact ⟨by rw [HE.out]; simp, HP2.out.bel⟩
      · have HP2 : Hid (PS F w1 (w1.heap.size + 1) w1.heap.size s vb j 0 w2) := hp
        have HI : Hid True := trivial
        clear HP HV hp HI
        go_wp2_with (first
          | (go_at_call 14; refine (zzTemplateOf (by exact HP2.out)).mono ?_; rintro e w3 ⟨rfl, rfl⟩)
          | (go_at_call 21; refine (tmplString (by exact HP2.out)).mono ?_; rintro e w4 ⟨rfl, rfl⟩))
        go_ret
        exact ⟨rfl, HP2.out.bel⟩
  · have hs' : ¬ (s.size : Int) ≤ 4096 := by omega
    clear hF HVS
    go_enter Tryf.func5, Tryf.ntmps5
    go_wp2_with (first
      | (go_at_call 20; refine (zzBytes s _).mono ?_; rintro e w1 ⟨⟨b, rfl, hb⟩, rfl⟩; clear hb))
    all_goals (go_ret; exact ⟨rfl, Below.refl _ _⟩)
end Go.Proofs.Qxb6616097aFmt
