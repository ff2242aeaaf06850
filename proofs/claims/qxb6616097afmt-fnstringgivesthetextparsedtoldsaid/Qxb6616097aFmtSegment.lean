import Derived.Test.Qxb6616097aFmtLiteral
import Derived.Test.Qxb6616097aFmtFieldPath
import Derived.Test.Qxb6616097aFmtAppend
import Derived.Deep.RegionLaw
namespace Go.Proofs.Qxb6616097aFmt
open Go.RowKit Go.Extern.Stop Go.Stop Go.Extern

section
variable {F : Interp} {W0 : World} {pb tb : Nat} {s verb : ByteArray} {i d : Nat} {w w' : World}

/-- What segment, variable and segments hand back: nil and the state moved on; or an error. -/
def SegPost (F : Interp) (W0 : World) (pb tb : Nat) (s verb : ByteArray) (i d : Nat) (e : Ending) (w' : World) : Prop :=
  ∃ j, Adv s i j ∧ ((e = .returned .nilIface ∧ PS F W0 pb tb s verb j d w') ∨ ∃ g, e = .returned (.iface 84 (.pointer (some ⟨g, 0, none⟩))) ∧ PS F W0 pb tb s verb j 0 w')

theorem extract_get {j k : Nat} {b : UInt8} (h : (s.extract i j).data.toList[k]? = some b) : s.data[i + k]? = some b := by
  rw [Array.getElem?_toList, ByteArray.data_extract, Array.getElem?_extract] at h
  split at h
  · exact h
  · cases h

theorem pref2 (h : Lib.hasPrefix (s.extract i s.size).data.toList [42, 42] = true) : i + 2 ≤ s.size ∧ Adv s i (i + 2) := by
  have hp : [42, 42] <+: (s.extract i s.size).data.toList := by simpa [Lib.hasPrefix] using h
  obtain ⟨r, hr⟩ := hp
  have h0 : s.data[i + 0]? = some 42 := extract_get (j := s.size) (by rw [← hr]; rfl)
  have h1 : s.data[i + 1]? = some 42 := extract_get (j := s.size) (by rw [← hr]; rfl)
  have hl : i + 1 < s.size := by
    rcases Nat.lt_or_ge (i + 1) s.size with hlt | hge
    · exact hlt
    · rw [Array.getElem?_eq_none (by exact hge)] at h1; cases h1
  exact ⟨hl, (Adv.one (by rw [show s.data[i]? = some 42 from h0]; decide)).trans (Adv.one (by rw [h1]; decide))⟩

theorem nonempty_adv {j : Nat} (hij : i ≤ j) (h : (s.extract i j).toList.isEmpty = false) : i < j := by
  rcases Nat.lt_or_ge i j with hlt | hge
  · exact hlt
  · have : j = i := by omega
    subst this
    simp at h

set_option maxRecDepth 20000 in
set_option maxHeartbeats 2000000 in
theorem segment (b : Bool) (h : PS F W0 pb tb s verb i d w) (hv : b = false → ∀ (i d : Nat) (w : World), PS F W0 pb tb s verb i (d + 1) w → Calls Tryf.prog 66 #[.pointer (some ⟨pb, 0, none⟩)] w (SegPost F W0 pb tb s verb i d)) :
    Calls Tryf.prog 55 #[.pointer (some ⟨pb, 0, none⟩), .bool b] w (SegPost F W0 pb tb s verb i d) := by
  have c0 := h.c0
  have c1 := h.c1
  have f1 := h.fz 1
  have hle := h.le
  have hsz := h.sz
  have hle' : (i : Int) ≤ (s.size : Int) := by omega
  have HP : Hid (PS F W0 pb tb s verb i d w) := h
  have HV : Hid (b = false → ∀ (i d : Nat) (w : World), PS F W0 pb tb s verb i (d + 1) w → Calls Tryf.prog 66 #[.pointer (some ⟨pb, 0, none⟩)] w (SegPost F W0 pb tb s verb i d)) := hv
  clear h hv
  obtain ⟨b1, hb1⟩ : ∃ b1, Lib.hasPrefix (s.extract i s.size).data.toList [42, 42] = b1 := ⟨_, rfl⟩
  have HB : Hid (b1 = true → i + 2 ≤ s.size ∧ Adv s i (i + 2)) := fun h => pref2 (hb1.trans h)
  have HC : Hid (∀ w, Calls Tryf.prog 65 #[.string (s.extract i s.size), .string ⟨#[42, 42]⟩] w fun e w' => e = .returned (.bool b1) ∧ w' = w) := fun w => by
    rw [← hb1]; exact Tryf.strings_HasPrefix _ _ w
  clear hb1
  go_enter Tryf.func55, Tryf.ntmps55
  go_wp2
  go_quiet ((go_at_call 65; exact Calls.quiet_of_same (HC.out _)))
  go_wp2_with (first | (go_at_call 48; refine (consume' _ (by exact HP.out.drewN _)).mono ?_; rintro e w1 ⟨b2, rfl, HC2⟩))
  · rename_i hb1
    obtain ⟨hs2, ha2⟩ := HB.out hb1
    have hps : PS F W0 pb tb s verb (i + 2) (d + 2) ((w.drewN nq).setCell ⟨pb, 1, none⟩ (.int .i64 ((i : Int) + 2))) := (HP.out.drewN nq).setI (by omega) hs2
    clear HB HC HV c0 c1 f1 hb1
    generalize (w.drewN nq).setCell ⟨pb, 1, none⟩ (.int .i64 ((i : Int) + 2)) = wx at hps ⊢
    obtain ⟨sv, vv, n, m, xs, ys, ht, hn, hm⟩ := hps.rows
    obtain ⟨t1, -, -, tf, tlt⟩ := ht.cells
    have tf1 := tf 1
    have p2 := hps.c2
    have plt := heap_lt hps.blk
    have hB : W0.heap.size ≤ wx.heap.size := hps.bel.size
    have HPS : Hid (PS F W0 pb tb s verb (i + 2) (d + 2) wx) := hps
    have HTS : Hid (TS W0.heap.size tb s verb sv vv n m xs ys wx) := ht
    have HA2 : Hid (Adv s i (i + 2)) := ha2
    have hne := hps.ne
    have hne' := hne.symm
    clear hps ht tf ha2 HP
    go_region_law ((refine step_seg _ (by rfl) _ _ (by rfl) W0.heap.size sv n xs (by rfl) (HTS.out.so.alloc _) wx.heap.size 2 ⟨#[]⟩ (by rfl) (heap_alloc_new wx _) (by omega) (Nat.le_trans hB (by simp)) ?_; intro g cap w1 hown hgrow; have hgr := grown_undrew hgrow; obtain ⟨e1, -, e3, e4⟩ := grown_cells HPS.out HTS.out (.inl rfl) _ hgr; have e5 := e3 1))
    all_goals
      go_wp2
      go_ret
      exact ⟨i + 2, HA2.out, .inl ⟨rfl, HPS.out.seg_after HTS.out (by omega) (by omega) _ hown hgr⟩⟩
  · rename_i hb1 hb2
    obtain ⟨hi1, hby, hps⟩ := HC2.out.2 hb2
    have HA2 : Hid (Adv s i (i + 1)) := Adv.one (byte_ne hby (by decide))
    clear HB HC HV HC2 HP c0 c1 f1 hb1 hb2 hby
    revert hps
    generalize w1 = wx
    intro hps
    obtain ⟨sv, vv, n, m, xs, ys, ht, hn, hm⟩ := hps.rows
    obtain ⟨t1, -, -, tf, tlt⟩ := ht.cells
    have tf1 := tf 1
    have p2 := hps.c2
    have plt := heap_lt hps.blk
    have hB : W0.heap.size ≤ wx.heap.size := hps.bel.size
    have HPS : Hid (PS F W0 pb tb s verb (i + 1) (d + 1) wx) := hps
    have HTS : Hid (TS W0.heap.size tb s verb sv vv n m xs ys wx) := ht
    have hne := hps.ne
    have hne' := hne.symm
    clear hps ht tf
    go_region_law ((refine step_seg _ (by rfl) _ _ (by rfl) W0.heap.size sv n xs (by rfl) (HTS.out.so.alloc _) wx.heap.size 1 ⟨#[]⟩ (by rfl) (heap_alloc_new wx _) (by omega) (Nat.le_trans hB (by simp)) ?_; intro g cap w1 hown hgrow; have hgr := grown_undrew hgrow; obtain ⟨e1, -, e3, e4⟩ := grown_cells HPS.out HTS.out (.inl rfl) _ hgr; have e5 := e3 1))
    all_goals
      go_wp2
      go_ret
      exact ⟨i + 1, HA2.out, .inl ⟨rfl, HPS.out.seg_after HTS.out (by omega) (by omega) _ hown hgr⟩⟩
  · rename_i hb1 hb2 _ _ _ _
    have hk1 := HC2.out.1 hb2
    clear HB HC HC2 HP c0 c1 f1 hb1 hb2
    refine (consume' 123 hk1).mono ?_
    rintro e w2 ⟨b3, rfl, HC3⟩
    clear hk1
    cases b3 with
    | true =>
      obtain ⟨hi1, hby, hps⟩ := HC3.out.2 rfl
      have HA2 : Hid (Adv s i (i + 1)) := Adv.one (byte_ne hby (by decide))
      have HPS : Hid (PS F W0 pb tb s verb (i + 1) (d + 1) w2) := hps
      clear HC3 hps hby
      cases b with
      | true =>
        go_wp2_with (first | (go_at_call 52; refine (errorf_plain _ (by simp [plainMsg]) (by exact HPS.out)).mono ?_; rintro e w3 ⟨g, rfl, hp3⟩))
        go_ret
        exact ⟨i + 1, HA2.out, .inr ⟨g, rfl, hp3.less (Nat.zero_le _)⟩⟩
      | false =>
        have HVV : Hid (∀ (i d : Nat) (w : World), PS F W0 pb tb s verb i (d + 1) w → Calls Tryf.prog 66 #[.pointer (some ⟨pb, 0, none⟩)] w (SegPost F W0 pb tb s verb i d)) := HV.out rfl
        clear HV
        go_wp2_with (first | (go_at_call 66; fail))
        refine (HVV.out (i + 1) d w2 HPS.out).mono ?_
        rintro e w3 ⟨j, ha, (⟨rfl, hp⟩ | ⟨g, rfl, hp⟩)⟩
        · go_wp2
          go_ret
          exact ⟨j, HA2.out.trans ha, .inl ⟨rfl, hp⟩⟩
        · go_wp2
          go_ret
          exact ⟨j, HA2.out.trans ha, .inr ⟨g, rfl, hp⟩⟩
    | false =>
      have hps := HC3.out.1 rfl
      have HPS0 : Hid (PS F W0 pb tb s verb i d w2) := hps
      clear HC3 hps
      go_wp2_with (first | (go_at_call 51; refine (literal (by exact HPS0.out)).mono ?_; rintro e w3 ⟨j, rfl, hp3, ha3⟩; have HP3 : Hid (PS F W0 pb tb s verb j (d + (j - i)) w3) := hp3; have HA3 : Hid (Adv s i j) := ha3; clear hp3 ha3) | (go_at_call 52; refine (errorf_plain _ (by simp [plainMsg]) (by exact HP3.out)).mono ?_; rintro e w4 ⟨g, rfl, hp4⟩))
      · go_ret
        exact ⟨j, HA3.out, .inr ⟨g, rfl, hp4.less (Nat.zero_le _)⟩⟩
      · rename_i hemp
        have hij : i < j := nonempty_adv HA3.out.1 hemp
        have hps := HP3.out
        clear HV HP3 HPS0 hemp
        revert hps
        generalize w3 = wx
        intro hps
        obtain ⟨sv, vv, n, m, xs, ys, ht, hn, hm⟩ := hps.rows
        obtain ⟨t1, -, -, tf, tlt⟩ := ht.cells
        have tf1 := tf 1
        have p2 := hps.c2
        have plt := heap_lt hps.blk
        have hB : W0.heap.size ≤ wx.heap.size := hps.bel.size
        have HPS : Hid (PS F W0 pb tb s verb (j) (d + (j - i)) wx) := hps
        have HTS : Hid (TS W0.heap.size tb s verb sv vv n m xs ys wx) := ht
        have hne := hps.ne
        have hne' := hne.symm
        have hjs := hps.le
        clear hps ht tf
        go_region_law ((refine step_seg _ (by rfl) _ _ (by rfl) W0.heap.size sv n xs (by rfl) (HTS.out.so.alloc _) wx.heap.size 0 (s.extract i j) (by rfl) (heap_alloc_new wx _) (by omega) (Nat.le_trans hB (by simp)) ?_; intro g cap w1 hown hgrow; have hgr := grown_undrew hgrow; obtain ⟨e1, -, e3, e4⟩ := grown_cells HPS.out HTS.out (.inl rfl) _ hgr; have e5 := e3 1))
        all_goals
          go_wp2
          go_ret
          exact ⟨j, HA3.out, .inl ⟨rfl, HPS.out.seg_after HTS.out (by omega) (by omega) _ hown hgr⟩⟩
end
end Go.Proofs.Qxb6616097aFmt
