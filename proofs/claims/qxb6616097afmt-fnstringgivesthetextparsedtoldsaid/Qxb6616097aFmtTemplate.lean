import Derived.Test.Qxb6616097aFmtSegments
import Derived.Deep.DeepCutAuto
namespace Go.Proofs.Qxb6616097aFmt
open Go.RowKit Go.Extern.Stop Go.Stop Go.Extern

section
variable {F : Interp} {W0 : World} {pb tb : Nat} {s verb : ByteArray} {i d : Nat} {w w' : World}

/-- What the verb is at position j: none, and no colon so far; or all that lies between the first colon and j, and it is not empty. -/
def VerbAt (s verb : ByteArray) (j : Nat) : Prop :=
  (verb = ⟨#[]⟩ ∧ Adv s 0 j) ∨ (∃ c, c < j ∧ s.data[c]? = some 58 ∧ Adv s 0 c ∧ verb = s.extract (c + 1) j ∧ verb.toList.isEmpty = false)

def TmplPost (F : Interp) (W0 : World) (pb tb : Nat) (s : ByteArray) (e : Ending) (w' : World) : Prop :=
  ∃ verb j, PS F W0 pb tb s verb j 0 w' ∧ ((e = .returned .nilIface ∧ VerbAt s verb s.size) ∨ ∃ g, e = .returned (.iface 84 (.pointer (some ⟨g, 0, none⟩))))

theorem new_drew1 (w : World) (o : Obj) : (w.alloc o).drew.heap[w.heap.size]? = some o := heap_alloc_new w o

theorem owns_slice_t {B : Nat} {e : TypeId} {k n : Nat} {v : Value} {xs : List Value} (h : w.ownsRow B e k v n xs) : ∃ a c, v = .slice a n c ∧ (0 < n → ∃ g, a = some ⟨g, 0, none⟩) := by
  rcases h.2 with ⟨rfl, rfl⟩ | ⟨g, cap, cur, rfl, _⟩
  · exact ⟨none, 0, rfl, fun h => absurd h (Nat.lt_irrefl _)⟩
  · exact ⟨_, _, rfl, fun _ => ⟨g, rfl⟩⟩

set_option maxRecDepth 20000 in
set_option maxHeartbeats 2000000 in
theorem template (h : PS F W0 pb tb s ⟨#[]⟩ 0 0 w) (hv : ∀ (i d : Nat) (w : World), PS F W0 pb tb s ⟨#[]⟩ i (d + 1) w → Calls Tryf.prog 66 #[.pointer (some ⟨pb, 0, none⟩)] w (SegPost F W0 pb tb s ⟨#[]⟩ i d)) :
    Calls Tryf.prog 33 #[.pointer (some ⟨pb, 0, none⟩)] w (TmplPost F W0 pb tb s) := by
  have hsz := h.sz
  have HP : Hid (PS F W0 pb tb s ⟨#[]⟩ 0 0 w) := h
  have HV : Hid (∀ (i d : Nat) (w : World), PS F W0 pb tb s ⟨#[]⟩ i d w → Calls Tryf.prog 50 #[.pointer (some ⟨pb, 0, none⟩), .bool false] w (SegPost F W0 pb tb s ⟨#[]⟩ i d)) := fun i d w h => segments false h (fun _ => hv)
  clear h hv
  go_enter Tryf.func33, Tryf.ntmps33
  go_wp2_with (first
    | (go_at_call 48; refine (consume' _ (by exact HP.out)).mono ?_; rintro e w1 ⟨b1, rfl, HC⟩)
    | (go_at_call 49; refine (errors_New _ _).mono ?_; rintro e w2 ⟨g, rfl, hb2⟩)
    | (go_at_call 50; fail))
  · rename_i hb
    have hp1 := HC.out.1 (by simpa using hb)
    have HP1 : Hid (PS F W0 pb tb s ⟨#[]⟩ 0 0 w2) := hp1.of_below hb2
    go_ret
    exact ⟨_, 0, HP1.out, .inr ⟨g, rfl⟩⟩
  · have hb := ‹(!b1) = false›
    obtain ⟨h1, h2, hp1⟩ := HC.out.2 (by simpa using hb)
    have HA1 : Hid (Adv s 0 (0 + 1)) := Adv.one (byte_ne h2 (by decide))
    have HP1 : Hid (PS F W0 pb tb s ⟨#[]⟩ (0 + 1) (0 + 1) w1) := hp1
    clear HC HP h1 h2 hp1 hb
    refine (HV.out _ _ _ HP1.out).mono ?_
    rintro e w2 ⟨j, ha, (⟨rfl, hp⟩ | ⟨g, rfl, hp⟩)⟩
    · have HA2 : Hid (Adv s 0 j) := HA1.out.trans ha
      have HP2 : Hid (PS F W0 pb tb s ⟨#[]⟩ j 0 w2) := hp.less (Nat.zero_le _)
      clear ha hp HP1 HA1 HV
      go_upto_if 16 with (first | (go_at_call 48; refine (consume' _ (by exact HP2.out)).mono ?_; rintro e w3 ⟨b3, rfl, HC3⟩))
      clear HP2
      go_cut [17] (fun _ wd => ∃ vb j2, Hid (PS F W0 pb tb s vb j2 0 wd) ∧ Hid (VerbAt s vb j2))
      case first =>
        cases b3 with
        | true =>
          obtain ⟨h1, h2, hp3⟩ := HC3.out.2 rfl
          have HB3 : Hid (s.data[j]? = some 58) := h2
          obtain ⟨sv, vv, n, m, xs, ys, ht, -, -⟩ := hp3.rows
          obtain ⟨-, -, t2, tf, tlt⟩ := ht.cells
          have p2 := hp3.c2
          have tf2 := tf 2
          have hne := hp3.ne
          have hne' := hne.symm
          have HP3 : Hid (PS F W0 pb tb s ⟨#[]⟩ (j + 1) (0 + 1) w3) := hp3
          clear HC3 h2 hp3 ht tf
          go_wp2
          go_region_held3 (fun w' => w'.cell? ⟨pb, 2, none⟩ = some (.pointer (some ⟨tb, 0, none⟩))) (first | assumption | go_keep)
            (first | (go_at_call 51; refine (literal (by exact HP3.out.of_below (Below.refl _ _).drew)).mono ?_; rintro e w4 ⟨j4, rfl, hp4, ha4⟩; have q2 := hp4.c2; obtain ⟨_, _, _, _, _, _, ht4, -, -⟩ := hp4.rows; obtain ⟨-, -, q3, q4, q5⟩ := ht4.cells; have q6 := q4 2; have HP4 : Hid (PS F W0 pb tb s ⟨#[]⟩ j4 (0 + 1 + (j4 - (j + 1))) w4) := hp4; have HA4 : Hid (Adv s (j + 1) j4) := ha4; clear hp4 ha4 ht4 q4))
          have hp5 : PS F W0 pb tb s (s.extract (j + 1) j4) j4 0 (w4.setCell ⟨tb, 2, none⟩ (.string (s.extract (j + 1) j4))) := (HP4.out.less (Nat.zero_le _)).setVerb _
          clear HP4 q2 q3 q5 q6 hne hne' p2 t2 tf2 tlt
          revert hp5
          generalize w4.setCell ⟨tb, 2, none⟩ (.string (s.extract (j + 1) j4)) = wv
          intro hp5
          obtain ⟨_, _, _, _, _, _, ht5, -, -⟩ := hp5.rows
          obtain ⟨-, -, r2, -, -⟩ := ht5.cells
          have r1 := hp5.c2
          have HP5 : Hid (PS F W0 pb tb s (s.extract (j + 1) j4) j4 0 wv) := hp5
          clear hp5 ht5 HP3
          go_wp2_with (first | (go_at_call 52; refine (errorf_plain _ (by simp [plainMsg]) (by exact HP5.out)).mono ?_; rintro e w6 ⟨g, rfl, hp6⟩))
          · go_ret
            exact ⟨_, j4, hp6, .inr ⟨g, rfl⟩⟩
          · have hem := ‹(s.extract (j + 1) j4).toList.isEmpty = false›
            go_meet
            exact ⟨_, j4, HP5.out, .inr ⟨j, HA4.out.1, HB3.out, HA2.out, rfl, hem⟩⟩
        | false =>
          have hp3 := HC3.out.1 rfl
          have HP3 : Hid (PS F W0 pb tb s ⟨#[]⟩ j 0 w3) := hp3
          clear HC3 hp3
          go_wp2
          go_meet
          exact ⟨_, j, HP3.out, .inl ⟨rfl, HA2.out⟩⟩
      case rest =>
        obtain ⟨vb, j2, HP4, HV4⟩ := hcut
        clear HC3 HA2
        have v0 := HP4.out.c0
        have v1 := HP4.out.c1
        have v2 := HP4.out.c2
        have hjs := HP4.out.le
        by_cases hj : j2 < s.size
        · have hj' : (j2 : Int) < (s.size : Int) := by omega
          go_wp2
          go_quiet (fail)
          go_wp2
          have hpz := HP4.out.drewN nq
          clear HP4 v0 v1 v2
          revert hpz
          generalize wc.drewN nq = wz
          intro hpz
          have v0 := hpz.c0
          have v1 := hpz.c1
          have vlt := heap_lt hpz.blk
          have HPZ : Hid (PS F W0 pb tb s vb j2 0 wz) := hpz
          clear hpz
          go_region_held3 (fun w' => w'.cell? ⟨pb, 0, none⟩ = some (.string s) ∧ w'.cell? ⟨pb, 1, none⟩ = some (.int .i64 (j2 : Int))) (first | exact ⟨s0, s1⟩ | go_keep)
            (first | (go_at_call 52; refine (errorf_unexpected (by exact HPZ.out.of_below ((Below.refl _ _).alloc (Nat.le_refl _) _).drew) _ _ (new_drew1 _ _)).mono ?_; rintro e w6 ⟨g, rfl, hp6⟩; have s0 := hp6.c0; have s1 := hp6.c1; have HP6 : Hid (PS F W0 pb tb s vb j2 0 w6) := hp6; clear hp6))
          go_wp2
          go_ret
          exact ⟨_, j2, HP6.out, .inr ⟨g, rfl⟩⟩
        · have hj' : decide ((j2 : Int) < (s.size : Int)) = false := by simp; omega
          go_wp2
          go_quiet (fail)
          have hjs2 : j2 = s.size := by omega
          subst hjs2
          have hpz := HP4.out.drewN nq
          clear HP4 v0 v1 v2 hj hj' hjs
          revert hpz
          generalize wc.drewN nq = wz
          intro hpz
          obtain ⟨sv, vv, n, m, xs, ys, ht, hn, -⟩ := hpz.rows
          obtain ⟨a2, c2, hsv, hav⟩ := owns_slice_t ht.so
          subst hsv
          obtain ⟨t1, -, -, -, tlt⟩ := ht.cells
          have p2 := hpz.c2
          have plt := heap_lt hpz.blk
          have HPZ : Hid (PS F W0 pb tb s vb s.size 0 wz) := hpz
          have HTS : Hid (TS W0.heap.size tb s vb (.slice a2 n c2) vv n m xs ys wz) := ht
          clear hpz ht
          go_wp2
          go_loopw [66] (fun ix wr => ∃ k : Nat, k ≤ n ∧ ix = .int .i64 k ∧ Hid (Below wz.heap.size wz wr)) (fun ix _ => n - (intOf ix).toNat)
          case atStart => exact ⟨0, Nat.zero_le _, rfl, Below.refl _ _⟩
          case round =>
            obtain ⟨k, hk, rfl, HB⟩ := hrel
            have hsz1 := HB.out.size
            have t1' : wr.cell? ⟨tb, 1, none⟩ = some (.slice a2 n c2) := (HB.out.cell (p := ⟨tb, 1, none⟩) tlt).trans t1
            have p2' : wr.cell? ⟨pb, 2, none⟩ = some (.pointer (some ⟨tb, 0, none⟩)) := (HB.out.cell (p := ⟨pb, 2, none⟩) plt).trans p2
            clear t1 p2
            by_cases hkm : k < n
            · obtain ⟨g, rfl⟩ := hav (by omega)
              obtain ⟨z, tx, h0, h1⟩ := HTS.out.segs k hkm
              have hlt := (HTS.out.so.lt g rfl).2
              have y0 : wr.cell? ⟨g, k * 2, none⟩ = some (.int .i64 z) := (HB.out.cell (p := ⟨g, k * 2, none⟩) hlt).trans ((HTS.out.so.cellAt (k * 2) (by omega)).trans h0)
              have y1 : wr.cell? ⟨g, k * 2 + 1, none⟩ = some (.string tx) := (HB.out.cell (p := ⟨g, k * 2 + 1, none⟩) hlt).trans ((HTS.out.so.cellAt (k * 2 + 1) (by omega)).trans h1)
              have hkm' : (k : Int) < (n : Int) := by omega
              have hglt : g < wr.heap.size := by omega
              have htlt : tb < wr.heap.size := by omega
              have hplt : pb < wr.heap.size := by omega
              clear h0 h1
              go_wp2_with (first | (go_at_call 49; refine (errors_New _ _).mono ?_; rintro e w2 ⟨g2, rfl, hb2⟩; have HB2 : Hid (Below wr.heap.size wr w2) := ((Below.refl _ _).alloc (Nat.le_refl _) _).trans (hb2.mono (by simp)); clear hb2))
              all_goals first
                | (go_ret
                   exact ⟨_, s.size, HPZ.out.of_below (HB.out.trans (HB2.out.mono hsz1)), .inr ⟨g2, rfl⟩⟩)
                | exact ⟨⟨k + 1, by omega, rfl, HB.out.alloc hsz1 _⟩, by simp [intOf]; omega⟩
            · have hkm' : ¬ (k : Int) < (n : Int) := by omega
              go_wp2
              go_ret
              exact ⟨_, s.size, HPZ.out.of_below HB.out, .inl ⟨rfl, HV4.out⟩⟩
    · have HP2 : Hid (PS F W0 pb tb s ⟨#[]⟩ j 0 w2) := hp
      clear ha hp HP1 HA1 HV
      go_wp2
      go_ret
      exact ⟨_, j, HP2.out, .inr ⟨g, rfl⟩⟩
end
end Go.Proofs.Qxb6616097aFmt
