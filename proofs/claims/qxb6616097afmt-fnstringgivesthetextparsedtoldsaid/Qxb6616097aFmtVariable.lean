import Derived.Test.Qxb6616097aFmtSegments
import Derived.Deep.DeepCutAuto
import Derived.Deep.RegionHeld3
namespace Go.Proofs.Qxb6616097aFmt
open Go.RowKit Go.Extern.Stop Go.Stop Go.Extern

section
variable {F : Interp} {W0 : World} {pb tb : Nat} {s verb : ByteArray} {i d : Nat} {w w' : World}

theorem owns_slice {B : Nat} {e : TypeId} {k n : Nat} {v : Value} {xs : List Value} (h : w.ownsRow B e k v n xs) : ∃ a c, v = .slice a n c ∧ (0 < n → ∃ g, a = some ⟨g, 0, none⟩) := by
  rcases h.2 with ⟨rfl, rfl⟩ | ⟨g, cap, cur, rfl, _⟩
  · exact ⟨none, 0, rfl, fun h => absurd h (Nat.lt_irrefl _)⟩
  · exact ⟨_, _, rfl, fun _ => ⟨g, rfl⟩⟩

theorem set_tb3 {w1 : World} {pb tb : Nat} {x y v : Value} (hne : pb ≠ tb) (h1 : w1.cell? ⟨pb, 2, none⟩ = some x) (h2 : w1.cell? ⟨tb, 1, none⟩ = some y) :
    (w1.setCell ⟨tb, 3, none⟩ v).cell? ⟨pb, 2, none⟩ = some x ∧ (w1.setCell ⟨tb, 3, none⟩ v).cell? ⟨tb, 1, none⟩ = some y :=
  ⟨(World.cell?_setCell_other _ _ _ _ (fun e => hne (congrArg Addr.block e).symm)).trans h1, (World.cell?_setCell_other _ _ _ _ (fun e => absurd (congrArg Addr.off e) (show ¬ (3 : Nat) = 1 by decide))).trans h2⟩

theorem new_two (w : World) (o o' : Obj) : ((w.alloc o).alloc o').heap[w.heap.size + 1]? = some o' := by
  have := heap_alloc_new (w.alloc o) o'
  simpa using this

set_option linter.unusedSimpArgs false in
set_option maxRecDepth 20000 in
set_option maxHeartbeats 4000000 in
theorem variable_ (h : PS F W0 pb tb s verb i (d + 1) w) : Calls Tryf.prog 66 #[.pointer (some ⟨pb, 0, none⟩)] w (SegPost F W0 pb tb s verb i d) := by
  have HP : Hid (PS F W0 pb tb s verb i (d + 1) w) := h
  clear h
  go_enter Tryf.func66, Tryf.ntmps66
  go_wp2_with (first | (go_at_call 73; fail))
  refine (fieldPath HP.out).mono ?_
  rintro e w1 ⟨j, ha, hp, (⟨t, rfl⟩ | ⟨g, rfl⟩)⟩
  · have hsz := hp.sz
    have hle := hp.le
    obtain ⟨sv, vv, n, m, xs, ys, ht, hn, hm⟩ := hp.rows
    obtain ⟨a, c, hvv, hav⟩ := owns_slice ht.vo
    obtain ⟨a2, c2, hsv, -⟩ := owns_slice ht.so
    obtain ⟨t1, t3, -, tf, tlt⟩ := ht.cells
    subst hvv
    subst hsv
    have p2 := hp.c2
    have plt := heap_lt hp.blk
    have HA : Hid (Adv s i j) := ha
    have HPS : Hid (PS F W0 pb tb s verb j (d + 1) w1) := hp
    have HTS : Hid (TS W0.heap.size tb s verb (.slice a2 n c2) (.slice a m c) n m xs ys w1) := ht
    clear ha hp ht HP tf
    go_wp2
    go_loopw [25] (fun ix wr => ∃ k : Nat, k ≤ m ∧ ix = .int .i64 k ∧ Hid (Below w1.heap.size w1 wr)) (fun ix _ => m - (intOf ix).toNat)
    case atStart => exact ⟨0, Nat.zero_le _, rfl, Below.refl _ _⟩
    case round =>
      obtain ⟨k, hk, rfl, HB⟩ := hrel
      have hsz1 := HB.out.size
      by_cases hkm : k < m
      · obtain ⟨g, rfl⟩ := hav (by omega)
        obtain ⟨f, p, q, h0, h1, h2⟩ := HTS.out.vars k hkm
        have hlt := (HTS.out.vo.lt g rfl).2
        have y0 : wr.cell? ⟨g, k * 3, none⟩ = some (.string f) := (HB.out.cell (p := ⟨g, k * 3, none⟩) hlt).trans ((HTS.out.vo.cellAt (k * 3) (by omega)).trans h0)
        have y1 : wr.cell? ⟨g, k * 3 + 1, none⟩ = some (.int .i64 p) := (HB.out.cell (p := ⟨g, k * 3 + 1, none⟩) hlt).trans ((HTS.out.vo.cellAt (k * 3 + 1) (by omega)).trans h1)
        have y2 : wr.cell? ⟨g, k * 3 + 2, none⟩ = some (.int .i64 q) := (HB.out.cell (p := ⟨g, k * 3 + 2, none⟩) hlt).trans ((HTS.out.vo.cellAt (k * 3 + 2) (by omega)).trans h2)
        have hkm' : (k : Int) < (m : Int) := by omega
        have hglt : g < wr.heap.size := by omega
        have HF : Hid (F.answers wr.tape) := by rw [HB.out.tape]; exact HPS.out.ans
        clear h0 h1 h2 t3 t1 p2
        go_wp2_with (first | (go_at_call 57; fail))
        · refine (errorf1 F t (wr.heap.size + 1) ((wr.alloc (.cells #[.string f, .int .i64 p, .int .i64 q] 82)).alloc (.cells #[.iface 9 (.string t)] 20)) HF.out (new_two wr _ _)).mono ?_
          rintro e w3 ⟨g3, rfl, hb3⟩
          have HP3 : Hid (PS F W0 pb tb s verb j 0 w3) := (HPS.out.of_below (((HB.out.alloc hsz1 _).alloc (by simp; omega) _).trans (hb3.mono (by simp; omega)))).less (Nat.zero_le _)
          clear hb3
          go_wp2
          go_ret
          exact ⟨j, HA.out, .inr ⟨g3, rfl, HP3.out⟩⟩
        · exact ⟨⟨k + 1, by omega, rfl, HB.out.alloc hsz1 _⟩, by simp [intOf]; omega⟩
      · have hkm' : ¬ (k : Int) < (m : Int) := by omega
        have hpw : PS F W0 pb tb s verb j (d + 1) wr := HPS.out.of_below HB.out
        have htw := HTS.out.of_below HB.out
        obtain ⟨t1', -, -, -, -⟩ := htw.cells
        have p2' := hpw.c2
        have HPW : Hid (PS F W0 pb tb s verb j (d + 1) wr) := hpw
        clear t3 t1 p2 plt tlt htw hpw HTS HPS HB hsz1 hav hm
        go_upto_if 47 with (first | (go_at_call 48; refine (consume' _ (by exact HPW.out)).mono ?_; rintro e w2 ⟨b2, rfl, HC⟩))
        clear t1' p2' HPW hkm' hkm hk
        go_cut [8] (fun _ wd => ∃ j2, Hid (PS F W0 pb tb s verb j2 d wd) ∧ Hid (Adv s i j2))
        case first =>
          cases b2 with
          | true =>
            obtain ⟨h1, h2, hps⟩ := HC.out.2 rfl
            have HA1 : Hid (Adv s i (j + 1)) := HA.out.trans (Adv.one (byte_ne h2 (by decide)))
            have HPS : Hid (PS F W0 pb tb s verb (j + 1) (d + 1 + 1) w2) := hps
            clear h1 h2 hps HC HA
            go_wp2_with (first | (go_at_call 50; fail))
            refine (segments true HPS.out (fun h => by cases h)).mono ?_
            rintro e w3 ⟨j3, ha, (⟨rfl, hp⟩ | ⟨g, rfl, hp⟩)⟩
            · have HP3 : Hid (PS F W0 pb tb s verb j3 (d + 1 + 1) w3) := hp
              have HA3 : Hid (Adv s (j + 1) j3) := ha
              clear hp ha
              go_wp2
              go_meet
              exact ⟨j3, HP3.out.less (by omega), HA1.out.trans HA3.out⟩
            · have HP3 : Hid (PS F W0 pb tb s verb j3 0 w3) := hp
              have HA3 : Hid (Adv s (j + 1) j3) := ha
              clear hp ha
              go_wp2
              go_ret
              exact ⟨j3, HA1.out.trans HA3.out, .inr ⟨g, rfl, HP3.out⟩⟩
          | false =>
            have hps := HC.out.1 rfl
            clear HC
            revert hps
            generalize w2 = wx
            intro hps
            obtain ⟨sv, vv, n, m, xs, ys, ht, hn, hm⟩ := hps.rows
            obtain ⟨t1, -, -, tf, tlt⟩ := ht.cells
            have tf1 := tf 1
            have p2 := hps.c2
            have plt := heap_lt hps.blk
            have hB : W0.heap.size ≤ wx.heap.size := hps.bel.size
            have HPS : Hid (PS F W0 pb tb s verb (j) (d + 1) wx) := hps
            have HTS : Hid (TS W0.heap.size tb s verb sv vv n m xs ys wx) := ht
            have hne := hps.ne
            have hne' := hne.symm
            have hjs := hps.le
            clear hps ht tf
            go_wp2
            go_region_law ((refine step_seg _ (by rfl) _ _ (by rfl) W0.heap.size sv n xs (by rfl) (HTS.out.so.alloc _) wx.heap.size 1 ⟨#[]⟩ (by rfl) (heap_alloc_new wx _) (by omega) (Nat.le_trans hB (by simp)) ?_; intro g cap w1 hown hgrow; have hgr := grown_undrew hgrow; obtain ⟨e1, -, e3, e4⟩ := grown_cells HPS.out HTS.out (.inl rfl) _ hgr; have e5 := e3 1))
            all_goals
              go_wp2
              go_meet
              exact ⟨j, HPS.out.seg_after HTS.out (by omega) (by omega) _ hown hgr, HA.out⟩
        case rest =>
          obtain ⟨j2, HP2, HA2⟩ := hcut
          clear HC HA
          go_wp2_with (first
            | (go_at_call 48; refine (consume' _ (by exact HP2.out)).mono ?_; rintro e w3 ⟨b3, rfl, HC3⟩)
            | (go_at_call 52; fail))
          · have hb := ‹(!b3) = true›
            have hp3 := HC3.out.1 (by simpa using hb)
            have HP3 : Hid (PS F W0 pb tb s verb j2 d (w3.alloc (.cells #[.iface 9 (.string t)] 20))) := hp3.of_below ((Below.refl _ _).alloc (Nat.le_refl _) _)
            clear HC3 hp3 HP2 hb
            refine (errorf_notClosed HP3.out t w3.heap.size (heap_alloc_new w3 _)).mono ?_
            rintro e w4 ⟨g, rfl, hp4⟩
            have HP4 : Hid (PS F W0 pb tb s verb j2 d w4) := hp4
            clear hp4
            go_wp2
            go_ret
            exact ⟨j2, HA2.out, .inr ⟨g, rfl, HP4.out.less (Nat.zero_le _)⟩⟩
          · have hb := ‹(!b3) = false›
            obtain ⟨h1, h2, hps⟩ := HC3.out.2 (by simpa using hb)
            have HA3 : Hid (Adv s i (j2 + 1)) := HA2.out.trans (Adv.one (byte_ne h2 (by decide)))
            clear h1 h2 HC3 HA2 HP2 hb
            revert hps
            generalize w3 = wx
            intro hps
            obtain ⟨sv, vv, n3, m3, xs, ys, ht, hn3, hm3⟩ := hps.rows
            obtain ⟨a3, c3, hsv, -⟩ := owns_slice ht.so
            subst hsv
            obtain ⟨t1, t3, -, tf, tlt⟩ := ht.cells
            have tf3 := tf 3
            have p2 := hps.c2
            have plt := heap_lt hps.blk
            have hB : W0.heap.size ≤ wx.heap.size := hps.bel.size
            have HPS : Hid (PS F W0 pb tb s verb (j2 + 1) (d + 1) wx) := hps
            have HTS : Hid (TS W0.heap.size tb s verb (.slice a3 n3 c3) vv n3 m3 xs ys wx) := ht
            have hne := hps.ne
            have hne' := hne.symm
            have hjs := hps.le
            clear hps ht tf
            have hS0 : wx.drew.cell? ⟨pb, 2, none⟩ = some (.pointer (some ⟨tb, 0, none⟩)) ∧ wx.drew.cell? ⟨tb, 1, none⟩ = some (.slice a3 n3 c3) := ⟨p2, t1⟩
            refine wp_region_noPanic ?_
            refine wp_region_held_drew (S := fun w' => w'.cell? ⟨pb, 2, none⟩ = some (.pointer (some ⟨tb, 0, none⟩)) ∧ w'.cell? ⟨tb, 1, none⟩ = some (.slice a3 n3 c3)) (by kernel_rfl) hS0 (fun hHeld => ?_)
            refine wpAnyH_take (i := 0) (oi := ?o0) (v := ?v0) ?ho0 (by kernel_rfl) (by kernel_rfl) (by kernel_rfl) (fun _ _ _ h => h) (Or.inl ⟨?hw0, ?hy0⟩) hHeld ?_
            case ho0 => (simp only [List.getElem?_toArray, List.getElem?_cons_succ, List.getElem?_cons_zero]; rfl)
            case hw0 => rfl
            case hy0 => (intro w hSw; obtain ⟨s1, s2⟩ := hSw; go_simp; try rfl)
            try simp only [Act.put, List.setIfInBounds_toArray, List.set_cons_zero, List.set_cons_succ]
            refine wpAnyH_take (i := 1) (oi := ?o1) (v := ?v1) ?ho1 (by kernel_rfl) (by kernel_rfl) (by kernel_rfl) (fun _ _ _ h => h) (Or.inl ⟨?hw1, ?hy1⟩) hHeld ?_
            case ho1 => (simp only [List.getElem?_toArray, List.getElem?_cons_succ, List.getElem?_cons_zero]; rfl)
            case hw1 => rfl
            case hy1 => (intro w hSw; obtain ⟨s1, s2⟩ := hSw; go_simp; try rfl)
            try simp only [Act.put, List.setIfInBounds_toArray, List.set_cons_zero, List.set_cons_succ]
            refine wpAnyH_take (i := 2) (oi := ?o2) (v := ?v2) ?ho2 (by kernel_rfl) (by kernel_rfl) (by kernel_rfl) (fun _ _ _ h => h) (Or.inl ⟨?hw2, ?hy2⟩) hHeld ?_
            case ho2 => (simp only [List.getElem?_toArray, List.getElem?_cons_succ, List.getElem?_cons_zero]; rfl)
            case hw2 => rfl
            case hy2 => (intro w hSw; obtain ⟨s1, s2⟩ := hSw; go_simp; try rfl)
            try simp only [Act.put, List.setIfInBounds_toArray, List.set_cons_zero, List.set_cons_succ]
            refine wpAnyH_take (i := 3) (oi := ?o3) (v := ?v3) ?ho3 (by kernel_rfl) (by kernel_rfl) (by kernel_rfl) (fun _ _ _ h => h) (Or.inl ⟨?hw3, ?hy3⟩) hHeld ?_
            case ho3 => (simp only [List.getElem?_toArray, List.getElem?_cons_succ, List.getElem?_cons_zero]; rfl)
            case hw3 => rfl
            case hy3 => (intro w hSw; obtain ⟨s1, s2⟩ := hSw; go_simp; try rfl)
            try simp only [Act.put, List.setIfInBounds_toArray, List.set_cons_zero, List.set_cons_succ]
            refine wpAnyH_take (i := 4) (oi := ?o4) (v := ?v4) ?ho4 (by kernel_rfl) (by kernel_rfl) (by kernel_rfl) (fun _ _ _ h => h) (Or.inl ⟨?hw4, ?hy4⟩) hHeld ?_
            case ho4 => (simp only [List.getElem?_toArray, List.getElem?_cons_succ, List.getElem?_cons_zero]; rfl)
            case hw4 => rfl
            case hy4 => (intro w hSw; obtain ⟨s1, s2⟩ := hSw; go_simp; try rfl)
            try simp only [Act.put, List.setIfInBounds_toArray, List.set_cons_zero, List.set_cons_succ]
            refine wpAnyH_take (i := 5) (oi := ?o5) (v := ?v5) ?ho5 (by kernel_rfl) (by kernel_rfl) (by kernel_rfl) (fun _ _ _ h => h) (Or.inl ⟨?hw5, ?hy5⟩) hHeld ?_
            case ho5 => (simp only [List.getElem?_toArray, List.getElem?_cons_succ, List.getElem?_cons_zero]; rfl)
            case hw5 => rfl
            case hy5 => (intro w hSw; obtain ⟨s1, s2⟩ := hSw; go_simp; try rfl)
            try simp only [Act.put, List.setIfInBounds_toArray, List.set_cons_zero, List.set_cons_succ]
            refine wpAnyH_take (i := 6) (oi := ?o6) (v := ?v6) ?ho6 (by kernel_rfl) (by kernel_rfl) (by kernel_rfl) (fun _ _ _ h => h) (Or.inl ⟨?hw6, ?hy6⟩) hHeld ?_
            case ho6 => (simp only [List.getElem?_toArray, List.getElem?_cons_succ, List.getElem?_cons_zero]; rfl)
            case hw6 => rfl
            case hy6 => (intro w hSw; obtain ⟨s1, s2⟩ := hSw; go_simp; try rfl)
            try simp only [Act.put, List.setIfInBounds_toArray, List.set_cons_zero, List.set_cons_succ]
            refine wpAnyH_take (i := 7) (oi := ?o7) (v := ?v7) ?ho7 (by kernel_rfl) (by kernel_rfl) (by kernel_rfl) (fun _ _ _ h => h) (Or.inl ⟨?hw7, ?hy7⟩) hHeld ?_
            case ho7 => (simp only [List.getElem?_toArray, List.getElem?_cons_succ, List.getElem?_cons_zero]; rfl)
            case hw7 => rfl
            case hy7 => (intro w hSw; obtain ⟨s1, s2⟩ := hSw; go_simp; try rfl)
            try simp only [Act.put, List.setIfInBounds_toArray, List.set_cons_zero, List.set_cons_succ]
            refine wpAnyH_take (i := 8) (oi := ?o8) (v := ?v8) ?ho8 (by kernel_rfl) (by kernel_rfl) (by kernel_rfl) (fun _ _ _ h => h) (Or.inl ⟨?hw8, ?hy8⟩) hHeld ?_
            case ho8 => (simp only [List.getElem?_toArray, List.getElem?_cons_succ, List.getElem?_cons_zero]; rfl)
            case hw8 => rfl
            case hy8 => (intro w hSw; obtain ⟨s1, s2⟩ := hSw; go_simp; try rfl)
            try simp only [Act.put, List.setIfInBounds_toArray, List.set_cons_zero, List.set_cons_succ]
            refine wpAnyH_take (i := 9) (oi := ?o9) (v := ?v9) ?ho9 (by kernel_rfl) (by kernel_rfl) (by kernel_rfl) (fun _ _ _ h => h) (Or.inl ⟨?hw9, ?hy9⟩) hHeld ?_
            case ho9 => (simp only [List.getElem?_toArray, List.getElem?_cons_succ, List.getElem?_cons_zero]; rfl)
            case hw9 => rfl
            case hy9 => (intro w hSw; obtain ⟨s1, s2⟩ := hSw; go_simp; try rfl)
            try simp only [Act.put, List.setIfInBounds_toArray, List.set_cons_zero, List.set_cons_succ]
            refine wpAnyH_take (i := 11) (oi := ?o11) (v := ?v11) ?ho11 (by kernel_rfl) (by kernel_rfl) (by kernel_rfl) (fun _ _ _ h => h) (Or.inl ⟨?hw11, ?hy11⟩) hHeld ?_
            case ho11 => (simp only [List.getElem?_toArray, List.getElem?_cons_succ, List.getElem?_cons_zero]; rfl)
            case hw11 => rfl
            case hy11 => (intro w hSw; obtain ⟨s1, s2⟩ := hSw; go_simp; try rfl)
            try simp only [Act.put, List.setIfInBounds_toArray, List.set_cons_zero, List.set_cons_succ]
            refine wpAnyH_take (i := 12) (oi := ?o12) (v := ?v12) ?ho12 (by kernel_rfl) (by kernel_rfl) (by kernel_rfl) (fun _ _ _ h => h) (Or.inl ⟨?hw12, ?hy12⟩) hHeld ?_
            case ho12 => (simp only [List.getElem?_toArray, List.getElem?_cons_succ, List.getElem?_cons_zero]; rfl)
            case hw12 => rfl
            case hy12 => (intro w hSw; obtain ⟨s1, s2⟩ := hSw; go_simp; try rfl)
            try simp only [Act.put, List.setIfInBounds_toArray, List.set_cons_zero, List.set_cons_succ]
            refine wpAnyH_take (i := 13) (oi := ?o13) (v := ?v13) ?ho13 (by kernel_rfl) (by kernel_rfl) (by kernel_rfl) (fun _ _ _ h => h) (Or.inl ⟨?hw13, ?hy13⟩) hHeld ?_
            case ho13 => (simp only [List.getElem?_toArray, List.getElem?_cons_succ, List.getElem?_cons_zero]; rfl)
            case hw13 => rfl
            case hy13 => (intro w hSw; obtain ⟨s1, s2⟩ := hSw; go_simp; try rfl)
            try simp only [Act.put, List.setIfInBounds_toArray, List.set_cons_zero, List.set_cons_succ]
            refine wpAnyH_take (i := 14) (oi := ?o14) (v := ?v14) ?ho14 (by kernel_rfl) (by kernel_rfl) (by kernel_rfl) (fun _ _ _ h => h) (Or.inl ⟨?hw14, ?hy14⟩) hHeld ?_
            case ho14 => (simp only [List.getElem?_toArray, List.getElem?_cons_succ, List.getElem?_cons_zero]; rfl)
            case hw14 => rfl
            case hy14 => (intro w hSw; obtain ⟨s1, s2⟩ := hSw; go_simp; try rfl)
            try simp only [Act.put, List.setIfInBounds_toArray, List.set_cons_zero, List.set_cons_succ]
            refine wpAnyH_take (i := 15) (oi := ?o15) (v := ?v15) ?ho15 (by kernel_rfl) (by kernel_rfl) (by kernel_rfl) (fun _ _ _ h => h) (Or.inl ⟨?hw15, ?hy15⟩) hHeld ?_
            case ho15 => (simp only [List.getElem?_toArray, List.getElem?_cons_succ, List.getElem?_cons_zero]; rfl)
            case hw15 => rfl
            case hy15 => (intro w hSw; obtain ⟨s1, s2⟩ := hSw; go_simp; try rfl)
            try simp only [Act.put, List.setIfInBounds_toArray, List.set_cons_zero, List.set_cons_succ]
            refine wpAnyH_take (i := 16) (oi := ?o16) (v := ?v16) ?ho16 (by kernel_rfl) (by kernel_rfl) (by kernel_rfl) (fun _ _ _ h => h) (Or.inl ⟨?hw16, ?hy16⟩) hHeld ?_
            case ho16 => (simp only [List.getElem?_toArray, List.getElem?_cons_succ, List.getElem?_cons_zero]; rfl)
            case hw16 => rfl
            case hy16 => (intro w hSw; obtain ⟨s1, s2⟩ := hSw; go_simp; try rfl)
            try simp only [Act.put, List.setIfInBounds_toArray, List.set_cons_zero, List.set_cons_succ]
            refine wpAnyH_take (i := 17) (oi := ?o17) (v := ?v17) ?ho17 (by kernel_rfl) (by kernel_rfl) (by kernel_rfl) (fun _ _ _ h => h) (Or.inl ⟨?hw17, ?hy17⟩) hHeld ?_
            case ho17 => (simp only [List.getElem?_toArray, List.getElem?_cons_succ, List.getElem?_cons_zero]; rfl)
            case hw17 => rfl
            case hy17 => (intro w hSw; obtain ⟨s1, s2⟩ := hSw; go_simp; try rfl)
            try simp only [Act.put, List.setIfInBounds_toArray, List.set_cons_zero, List.set_cons_succ]
            refine wpAnyH_take (i := 18) (oi := ?o18) (v := ?v18) ?ho18 (by kernel_rfl) (by kernel_rfl) (by kernel_rfl) (fun _ _ _ h => h) (Or.inl ⟨?hw18, ?hy18⟩) hHeld ?_
            case ho18 => (simp only [List.getElem?_toArray, List.getElem?_cons_succ, List.getElem?_cons_zero]; rfl)
            case hw18 => rfl
            case hy18 => (intro w hSw; obtain ⟨s1, s2⟩ := hSw; go_simp; try rfl)
            try simp only [Act.put, List.setIfInBounds_toArray, List.set_cons_zero, List.set_cons_succ]
            refine wpAnyH_take (i := 19) (oi := ?o19) (v := ?v19) ?ho19 (by kernel_rfl) (by kernel_rfl) (by kernel_rfl) (fun _ _ _ h => h) (Or.inl ⟨?hw19, ?hy19⟩) hHeld ?_
            case ho19 => (simp only [List.getElem?_toArray, List.getElem?_cons_succ, List.getElem?_cons_zero]; rfl)
            case hw19 => rfl
            case hy19 => (intro w hSw; obtain ⟨s1, s2⟩ := hSw; go_simp; try rfl)
            try simp only [Act.put, List.setIfInBounds_toArray, List.set_cons_zero, List.set_cons_succ]
            refine wpAnyH_take (i := 20) (oi := ?o20) (v := ?v20) ?ho20 (by kernel_rfl) (by kernel_rfl) (by kernel_rfl) (fun _ _ _ h => h) (Or.inl ⟨?hw20, ?hy20⟩) hHeld ?_
            case ho20 => (simp only [List.getElem?_toArray, List.getElem?_cons_succ, List.getElem?_cons_zero]; rfl)
            case hw20 => rfl
            case hy20 => (intro w hSw; obtain ⟨s1, s2⟩ := hSw; go_simp; try rfl)
            try simp only [Act.put, List.setIfInBounds_toArray, List.set_cons_zero, List.set_cons_succ]
            refine wpAnyH_take (i := 21) (oi := ?o21) (v := ?v21) ?ho21 (by kernel_rfl) (by kernel_rfl) (by kernel_rfl) (fun _ _ _ h => h) (Or.inl ⟨?hw21, ?hy21⟩) hHeld ?_
            case ho21 => (simp only [List.getElem?_toArray, List.getElem?_cons_succ, List.getElem?_cons_zero]; rfl)
            case hw21 => rfl
            case hy21 => (intro w hSw; obtain ⟨s1, s2⟩ := hSw; go_simp; try rfl)
            try simp only [Act.put, List.setIfInBounds_toArray, List.set_cons_zero, List.set_cons_succ]
            refine wpAnyH_ready (rs := [10, 22]) (by kernel_rfl) (by simp) ?_
            refine AllReadyH.cons (o := ?oA) ?hoA (fun K hK => ?_) (AllReadyH.cons (o := ?oB) ?hoB (fun K hK => ?_) AllReadyH.nil)
            case hoA => (simp only [List.getElem?_toArray, List.getElem?_cons_succ, List.getElem?_cons_zero]; rfl)
            case hoB => (simp only [List.getElem?_toArray, List.getElem?_cons_succ, List.getElem?_cons_zero]; rfl)
            · go_simp
              refine hK.out _ _ ?_ (fun hHeld => ?_)
              · first | exact hHeld | go_keep
              clear hK K
              try simp only [Act.put, List.setIfInBounds_toArray, List.set_cons_zero, List.set_cons_succ]
              refine wpAnyH_ready (rs := [22]) (by kernel_rfl) (by simp) ?_
              refine AllReadyH.cons (o := ?p22x5) ?hp22x5 (fun K hK => ?_) AllReadyH.nil
              case hp22x5 => (simp only [List.getElem?_toArray, List.getElem?_cons_succ, List.getElem?_cons_zero]; rfl)
              go_simp
              refine hK.out _ _ ?_ (fun hHeld => ?_)
              · first | exact hHeld | go_keep
              clear hK K
              try simp only [Act.put, List.setIfInBounds_toArray, List.set_cons_zero, List.set_cons_succ]
              refine wpAnyH_ready (rs := [23]) (by kernel_rfl) (by simp) ?_
              refine AllReadyH.cons (o := ?p23x6) ?hp23x6 (fun K hK => ?_) AllReadyH.nil
              case hp23x6 => (simp only [List.getElem?_toArray, List.getElem?_cons_succ, List.getElem?_cons_zero]; rfl)
              refine step_var _ (by rfl) _ _ (by rfl) W0.heap.size vv m3 ys (by rfl) (HTS.out.vo.alloc _) wx.heap.size t n n3 (by rfl) (heap_alloc_new wx _) (by omega) (Nat.le_trans hB (by simp)) ?_
              intro g cap w1 hown hgrow
              have hgr := grown_undrew hgrow
              obtain ⟨e0, e1, e3, e4⟩ := grown_cells HPS.out HTS.out (.inr rfl) _ hgr
              have e5 := e3 3
              refine hK.out _ _ ?_ (fun hHeld => ?_)
              · exact ⟨e4, e0⟩
              clear hK K
              try simp only [Act.put, List.setIfInBounds_toArray, List.set_cons_zero, List.set_cons_succ]
              refine wpAnyH_take (i := 24) (oi := ?o24x7) (v := ?v24x7) ?ho24x7 (by kernel_rfl) (by kernel_rfl) (by kernel_rfl) (fun _ _ _ h => h) (Or.inl ⟨?hw24x7, ?hy24x7⟩) hHeld ?_
              case ho24x7 => (simp only [List.getElem?_toArray, List.getElem?_cons_succ, List.getElem?_cons_zero]; rfl)
              case hw24x7 => rfl
              case hy24x7 => (intro w hSw; obtain ⟨s1, s2⟩ := hSw; go_simp; try rfl)
              try simp only [Act.put, List.setIfInBounds_toArray, List.set_cons_zero, List.set_cons_succ]
              refine wpAnyH_take (i := 25) (oi := ?o25x8) (v := ?v25x8) ?ho25x8 (by kernel_rfl) (by kernel_rfl) (by kernel_rfl) (fun _ _ _ h => h) (Or.inl ⟨?hw25x8, ?hy25x8⟩) hHeld ?_
              case ho25x8 => (simp only [List.getElem?_toArray, List.getElem?_cons_succ, List.getElem?_cons_zero]; rfl)
              case hw25x8 => rfl
              case hy25x8 => (intro w hSw; obtain ⟨s1, s2⟩ := hSw; go_simp; try rfl)
              try simp only [Act.put, List.setIfInBounds_toArray, List.set_cons_zero, List.set_cons_succ]
              refine wpAnyH_ready (rs := [26]) (by kernel_rfl) (by simp) ?_
              refine AllReadyH.cons (o := ?p26x9) ?hp26x9 (fun K hK => ?_) AllReadyH.nil
              case hp26x9 => (simp only [List.getElem?_toArray, List.getElem?_cons_succ, List.getElem?_cons_zero]; rfl)
              go_simp
              refine hK.out _ _ ?_ (fun hHeld => ?_)
              · exact set_tb3 hne e4 e0
              clear hK K
              try simp only [Act.put, List.setIfInBounds_toArray, List.set_cons_zero, List.set_cons_succ]
              refine wpAnyH_done (by kernel_rfl) ?_ _
              refine NoPanic.normal ?_
              go_wp2
              go_ret
              exact ⟨j2 + 1, HA3.out, .inl ⟨rfl, HPS.out.var_after HTS.out (by omega) (by omega) _ hown hgr⟩⟩
            · go_simp
              refine hK.out _ _ ?_ (fun hHeld => ?_)
              · first | exact hHeld | go_keep
              clear hK K
              try simp only [Act.put, List.setIfInBounds_toArray, List.set_cons_zero, List.set_cons_succ]
              refine wpAnyH_ready (rs := [10]) (by kernel_rfl) (by simp) ?_
              refine AllReadyH.cons (o := ?p10x10) ?hp10x10 (fun K hK => ?_) AllReadyH.nil
              case hp10x10 => (simp only [List.getElem?_toArray, List.getElem?_cons_succ, List.getElem?_cons_zero]; rfl)
              go_simp
              refine hK.out _ _ ?_ (fun hHeld => ?_)
              · first | exact hHeld | go_keep
              clear hK K
              try simp only [Act.put, List.setIfInBounds_toArray, List.set_cons_zero, List.set_cons_succ]
              refine wpAnyH_ready (rs := [23]) (by kernel_rfl) (by simp) ?_
              refine AllReadyH.cons (o := ?p23x11) ?hp23x11 (fun K hK => ?_) AllReadyH.nil
              case hp23x11 => (simp only [List.getElem?_toArray, List.getElem?_cons_succ, List.getElem?_cons_zero]; rfl)
              refine step_var _ (by rfl) _ _ (by rfl) W0.heap.size vv m3 ys (by rfl) (HTS.out.vo.alloc _) wx.heap.size t n n3 (by rfl) (heap_alloc_new wx _) (by omega) (Nat.le_trans hB (by simp)) ?_
              intro g cap w1 hown hgrow
              have hgr := grown_undrew hgrow
              obtain ⟨e0, e1, e3, e4⟩ := grown_cells HPS.out HTS.out (.inr rfl) _ hgr
              have e5 := e3 3
              refine hK.out _ _ ?_ (fun hHeld => ?_)
              · exact ⟨e4, e0⟩
              clear hK K
              try simp only [Act.put, List.setIfInBounds_toArray, List.set_cons_zero, List.set_cons_succ]
              refine wpAnyH_take (i := 24) (oi := ?o24x12) (v := ?v24x12) ?ho24x12 (by kernel_rfl) (by kernel_rfl) (by kernel_rfl) (fun _ _ _ h => h) (Or.inl ⟨?hw24x12, ?hy24x12⟩) hHeld ?_
              case ho24x12 => (simp only [List.getElem?_toArray, List.getElem?_cons_succ, List.getElem?_cons_zero]; rfl)
              case hw24x12 => rfl
              case hy24x12 => (intro w hSw; obtain ⟨s1, s2⟩ := hSw; go_simp; try rfl)
              try simp only [Act.put, List.setIfInBounds_toArray, List.set_cons_zero, List.set_cons_succ]
              refine wpAnyH_take (i := 25) (oi := ?o25x13) (v := ?v25x13) ?ho25x13 (by kernel_rfl) (by kernel_rfl) (by kernel_rfl) (fun _ _ _ h => h) (Or.inl ⟨?hw25x13, ?hy25x13⟩) hHeld ?_
              case ho25x13 => (simp only [List.getElem?_toArray, List.getElem?_cons_succ, List.getElem?_cons_zero]; rfl)
              case hw25x13 => rfl
              case hy25x13 => (intro w hSw; obtain ⟨s1, s2⟩ := hSw; go_simp; try rfl)
              try simp only [Act.put, List.setIfInBounds_toArray, List.set_cons_zero, List.set_cons_succ]
              refine wpAnyH_ready (rs := [26]) (by kernel_rfl) (by simp) ?_
              refine AllReadyH.cons (o := ?p26x14) ?hp26x14 (fun K hK => ?_) AllReadyH.nil
              case hp26x14 => (simp only [List.getElem?_toArray, List.getElem?_cons_succ, List.getElem?_cons_zero]; rfl)
              go_simp
              refine hK.out _ _ ?_ (fun hHeld => ?_)
              · exact set_tb3 hne e4 e0
              clear hK K
              try simp only [Act.put, List.setIfInBounds_toArray, List.set_cons_zero, List.set_cons_succ]
              refine wpAnyH_done (by kernel_rfl) ?_ _
              refine NoPanic.normal ?_
              go_wp2
              go_ret
              exact ⟨j2 + 1, HA3.out, .inl ⟨rfl, HPS.out.var_after HTS.out (by omega) (by omega) _ hown hgr⟩⟩
  · have HA : Hid (Adv s i j) := ha
    have HPS : Hid (PS F W0 pb tb s verb j (d + 1) w1) := hp
    clear ha hp HP
    go_wp2
    go_ret
    exact ⟨j, HA.out, .inr ⟨g, rfl, HPS.out.less (Nat.zero_le _)⟩⟩
end
end Go.Proofs.Qxb6616097aFmt
