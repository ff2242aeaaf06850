import Derived.Test.Qxb6616082aFmtMap
namespace Go.Proofs.Qxb6616082aFmt
open Go.RowKit Go.Extern.Stop Go.Stop Go.Extern Go.MapKept

set_option maxRecDepth 20000 in
theorem runOf (v0 v1 v2 v3 v4 v5 : Value) (w : World) : Calls Tryf.prog 36 #[.agg #[v0, v1, v2, v3, v4, v5]] w fun e w' => e = .returned (.func (.func 44) #[] #[.pointer (some ⟨w.heap.size, 0, none⟩)]) ∧ w' = w.alloc (.cells #[v0, v1, v2, v3, v4, v5] 36) := by
  go_enter Tryf.func36, Tryf.ntmps36
  go_wp2
  go_ret
  exact ⟨rfl, rfl⟩

theorem setMap_block {w : World} {mb k : Nat} {es : Array MapEntry} {c : Nat} (h : k ≠ mb) : (setMap w mb es c).heap[k]? = w.heap[k]? := by
  simp only [setMap]
  rw [Array.getElem?_setIfInBounds_ne (Ne.symm h)]
theorem setMap_cell {w : World} {mb : Nat} {es : Array MapEntry} {c b o : Nat} (h : b ≠ mb) : (setMap w mb es c).cell? ⟨b, o, none⟩ = w.cell? ⟨b, o, none⟩ := World.cell?_of_block (w := w) (setMap_block h)
theorem setMap_at {w : World} {mb : Nat} {es : Array MapEntry} {c : Nat} {o : Obj} (h : w.heap[mb]? = some o) : (setMap w mb es c).heap[mb]? = some (.map es c) := by
  simp only [setMap]
  rw [Array.getElem?_setIfInBounds_self_of_lt (heap_lt h)]

/-- What is there but block mb is as it was. -/
structure Kept (mb : Nat) (w w' : World) : Prop where
  os : w'.os = w.os
  tape : w'.tape = w.tape
  output : w'.output = w.output
  size : w.heap.size ≤ w'.heap.size
  block : ∀ k, k < w.heap.size → k ≠ mb → w'.heap[k]? = w.heap[k]?

theorem Kept.of_below {mb : Nat} {w w' : World} (h : Below w.heap.size w w') : Kept mb w w' := ⟨h.os, h.tape, h.output, h.size, fun k hk _ => h.block k hk⟩

theorem Kept.set {mb : Nat} {w w5 : World} (h : Below w.heap.size w w5) (es : Array MapEntry) (c : Nat) : Kept mb w (setMap w5 mb es c) :=
  ⟨h.os, h.tape, h.output, by simpa [setMap] using h.size, fun k hk hne => (setMap_block hne).trans (h.block k hk)⟩

def RegPost (mb : Nat) (name : ByteArray) (lo hi : Int) (f1 : Fn) (a1 c1 : Array Value) (w : World) (e : Ending) (w' : World) : Prop :=
  (validB name lo hi = false ∧ ErrPost w e w') ∨
  (validB name lo hi = true ∧ e = .returned .nilIface ∧ Kept mb w w' ∧ ∃ f2 a2 c2, w'.heap[mb]? = some (.map #[⟨.string name, .agg #[.string name, .int .i64 lo, .int .i64 hi, .nilFunc, .bool false, .func f1 a1 c1, .func f2 a2 c2], 0⟩] 1))

/-- What Register's walk knows of the world behind its first test. -/
structure RS (mb pb rb : Nat) (name : ByteArray) (lo hi : Int) (f1 : Fn) (a1 c1 : Array Value) (w w1 : World) : Prop where
  bel : Below w.heap.size w w1
  mp : w1.heap[mb]? = some (.map #[] 0)
  mlt : mb < w.heap.size
  pc : w1.cell? ⟨pb, 0, none⟩ = some (.map (some mb))
  plt : pb < w.heap.size
  pne : pb ≠ mb
  rbe : rb = w.heap.size
  rlt : rb < w1.heap.size
  blk : w1.heap[rb]? = some (.cells #[.string name, .int .i64 lo, .int .i64 hi, .nilFunc, .bool false, .func f1 a1 c1] 36 (0, 0))

theorem RS.cells {mb pb rb : Nat} {name : ByteArray} {lo hi : Int} {f1 : Fn} {a1 c1 : Array Value} {w w1 : World} (h : RS mb pb rb name lo hi f1 a1 c1 w w1) :
    w1.cell? ⟨rb, 0, none⟩ = some (.string name) ∧ w1.cell? ⟨rb, 1, none⟩ = some (.int .i64 lo) ∧ w1.cell? ⟨rb, 2, none⟩ = some (.int .i64 hi) ∧ w1.cell? ⟨rb, 3, none⟩ = some .nilFunc ∧ w1.cell? ⟨rb, 4, none⟩ = some (.bool false) ∧ w1.cell? ⟨rb, 5, none⟩ = some (.func f1 a1 c1) :=
  ⟨by rw [Lib.cell_of_heap h.blk]; rfl, by rw [Lib.cell_of_heap h.blk]; rfl, by rw [Lib.cell_of_heap h.blk]; rfl, by rw [Lib.cell_of_heap h.blk]; rfl, by rw [Lib.cell_of_heap h.blk]; rfl, by rw [Lib.cell_of_heap h.blk]; rfl⟩

theorem RS.of_below {mb pb rb : Nat} {name : ByteArray} {lo hi : Int} {f1 : Fn} {a1 c1 : Array Value} {w w1 w2 : World} (h : RS mb pb rb name lo hi f1 a1 c1 w w1) (hb : Below w1.heap.size w1 w2) : RS mb pb rb name lo hi f1 a1 c1 w w2 :=
  ⟨h.bel.trans (hb.mono h.bel.size), (hb.block _ (heap_lt h.mp)).trans h.mp, h.mlt, (hb.cell (World.block_lt_of_cell? w1 _ h.pc)).trans h.pc, h.plt, h.pne, h.rbe, Nat.lt_of_lt_of_le h.rlt hb.size, (hb.block _ h.rlt).trans h.blk⟩

set_option maxRecDepth 20000 in
set_option maxHeartbeats 2000000 in
theorem register (F : Interp) (mb pb : Nat) (name : ByteArray) (lo hi : Int) (f1 : Fn) (a1 c1 : Array Value) (w : World) (hF : F.answers w.tape) (hs : name.size ≤ 1048576)
    (hm : w.heap[mb]? = some (.map #[] 0)) (hp : w.cell? ⟨pb, 0, none⟩ = some (.map (some mb))) (hpm : pb ≠ mb) :
    Calls Tryf.prog 22 #[.pointer (some ⟨pb, 0, none⟩), .agg #[.string name, .int .i64 lo, .int .i64 hi, .nilFunc, .bool false, .func f1 a1 c1]] w (RegPost mb name lo hi f1 a1 c1 w) := by
  have HF : Hid (F.answers w.tape) := hF
  have HR : Hid (RS mb pb w.heap.size name lo hi f1 a1 c1 w (w.alloc (.cells #[.string name, .int .i64 lo, .int .i64 hi, .nilFunc, .bool false, .func f1 a1 c1] 36))) :=
    ⟨(Below.refl _ _).alloc (Nat.le_refl _) _, (Below.heap_alloc w _ _ (heap_lt hm)).trans hm, heap_lt hm, (((Below.refl w.heap.size w).alloc (Nat.le_refl _) _).cell (World.block_lt_of_cell? w _ hp)).trans hp, World.block_lt_of_cell? w _ hp, hpm, rfl, by simp, heap_alloc_new w _⟩
  clear hF hm hp hpm
  go_enter Tryf.func22, Tryf.ntmps22
  by_cases h0 : name.size = 0
  · have HV2 : Hid (validB name lo hi = false) := by
      show _ = _
      simp [validB, h0]
    have hem : name.toList.isEmpty = true := by
      rw [Lib.toList_data]
      rcases name with ⟨⟨l⟩⟩
      cases l with
      | nil => rfl
      | cons c l => simp [ByteArray.size] at h0
    obtain ⟨y0, y1, y2, y3, y4, y5⟩ := HR.out.cells
    go_wp2_with (first | (go_at_call 24; fail))
    have hb2 := HR.out.bel.alloc HR.out.bel.size (.cells #[.iface 9 (.string name)] 20)
    refine (errorf_name F name (w.heap.size + 1) _ (by rw [hb2.tape]; exact HF.out) (new_two w _ _)).mono ?_
    rintro e w3 ⟨g, rfl, hb3⟩
    have HB3 : Hid (Below w.heap.size w w3) := hb2.trans (hb3.mono hb2.size)
    clear hb2 hb3
    go_wp2
    go_ret
    exact .inl ⟨HV2.out, g, rfl, HB3.out⟩
  · have hne : name.toList.isEmpty = false := isEmpty_false h0
    have HV : Hid (validB name lo hi = (!blankB name && !decide (lo < 0) && !(decide (0 ≤ hi) && decide (hi < lo)))) := by
      show validB name lo hi = _
      simp [validB, h0]
    go_wp2_with (first | (go_at_call 35; fail))
    refine (containsAny name _ hs).mono ?_
    rintro e w1 ⟨rfl, hb1⟩
    have HR1 := HR.out.of_below hb1
    clear HR hb1
    obtain ⟨y0, y1, y2, y3, y4, y5⟩ := HR1.cells
    have HRR : Hid (RS mb pb w.heap.size name lo hi f1 a1 c1 w w1) := HR1
    clear HR1
    cases hbl : blankB name with
    | true =>
      rw [hbl] at HV
      go_wp2_with (first | (go_at_call 24; fail))
      have hb2 := HRR.out.bel.alloc HRR.out.bel.size (.cells #[.iface 9 (.string name)] 20)
      refine (errorf_name F name w1.heap.size _ (by rw [hb2.tape]; exact HF.out) (heap_alloc_new w1 _)).mono ?_
      rintro e w3 ⟨g, rfl, hb3⟩
      have HB3 : Hid (Below w.heap.size w w3) := hb2.trans (hb3.mono hb2.size)
      clear hb2 hb3
      go_wp2
      go_ret
      exact .inl ⟨by rw [HV.out]; rfl, g, rfl, HB3.out⟩
    | false =>
      rw [hbl] at HV
      by_cases hbad : lo < 0 ∨ (0 ≤ hi ∧ hi < lo)
      · have HV2 : Hid (validB name lo hi = false) := by
          show _ = _
          rw [HV.out]
          rcases hbad with h | ⟨h, h'⟩
          · simp [h]
          · simp [h, h']
        have hbd : (decide (lo < 0) || (decide (0 ≤ hi) && decide (hi < lo))) = true := by
          rcases hbad with h | ⟨h, h'⟩
          · simp [h]
          · simp [h, h']
        rcases hbad with h1 | ⟨h2, h3⟩
        · go_wp2_with (first | (go_at_call 24; fail))
          have hb2 := HRR.out.bel.alloc HRR.out.bel.size (.cells #[.iface 9 (.string name), .iface 3 (.int .i64 lo), .iface 3 (.int .i64 hi)] 20)
          refine (errorf_bounds F name lo hi w1.heap.size _ (by rw [hb2.tape]; exact HF.out) (heap_alloc_new w1 _)).mono ?_
          rintro e w3 ⟨g, rfl, hb3⟩
          have HB3 : Hid (Below w.heap.size w w3) := hb2.trans (hb3.mono hb2.size)
          clear hb2 hb3
          go_wp2
          go_ret
          exact .inl ⟨HV2.out, g, rfl, HB3.out⟩
        · by_cases h1 : lo < 0
          · exfalso; omega
          go_wp2_with (first | (go_at_call 24; fail))
          have hb2 := HRR.out.bel.alloc HRR.out.bel.size (.cells #[.iface 9 (.string name), .iface 3 (.int .i64 lo), .iface 3 (.int .i64 hi)] 20)
          refine (errorf_bounds F name lo hi w1.heap.size _ (by rw [hb2.tape]; exact HF.out) (heap_alloc_new w1 _)).mono ?_
          rintro e w3 ⟨g, rfl, hb3⟩
          have HB3 : Hid (Below w.heap.size w w3) := hb2.trans (hb3.mono hb2.size)
          clear hb2 hb3
          go_wp2
          go_ret
          exact .inl ⟨HV2.out, g, rfl, HB3.out⟩
      · have h1 : ¬ lo < 0 := fun h => hbad (.inl h)
        have HV2 : Hid (validB name lo hi = true) := by
          show _ = _
          rw [HV.out]
          by_cases h2 : 0 ≤ hi
          · have h3 : ¬ hi < lo := fun h => hbad (.inr ⟨h2, h⟩)
            simp [h2, h1, h3]
          · simp [h2, h1]
        have hpc := HRR.out.pc
        by_cases h2 : 0 ≤ hi
        · have h3 : ¬ hi < lo := fun h => hbad (.inr ⟨h2, h⟩)
          clear hbad
          go_wp2
          have hmp := HRR.out.mp
          have hA := run_lookup_empty w1.drew mb name hmp
          have hB := run_lookup_empty (w1.alloc (.cells #[.string ⟨#[]⟩, .int .i64 0, .int .i64 0, .nilFunc, .bool false, .nilFunc, .nilFunc] 42)).drew mb name ((Below.heap_alloc w1 _ _ (heap_lt hmp)).trans hmp)
          have hrlt := HRR.out.rlt
          have hplt : pb < w1.heap.size := Nat.lt_of_lt_of_le HRR.out.plt HRR.out.bel.size
          clear hmp
          go_region
          all_goals
            have HR4 : Hid (RS mb pb w.heap.size name lo hi f1 a1 c1 w (w1.alloc (.cells #[.string ⟨#[]⟩, .int .i64 0, .int .i64 0, .nilFunc, .bool false, .nilFunc, .nilFunc] 42)).drew) := HRR.out.of_below (((Below.refl _ _).alloc (Nat.le_refl _) _).drew)
            clear HRR hA hB hrlt hplt hpc y0 y1 y2 y3 y4 y5
            generalize (w1.alloc (.cells #[.string ⟨#[]⟩, .int .i64 0, .int .i64 0, .nilFunc, .bool false, .nilFunc, .nilFunc] 42)).drew = w4 at HR4 ⊢
            obtain ⟨y0, y1, y2, y3, y4, y5⟩ := HR4.out.cells
            have hpc := HR4.out.pc
            have hrlt := HR4.out.rlt
            have hmp := HR4.out.mp
            have hplt : pb < w4.heap.size := Nat.lt_of_lt_of_le HR4.out.plt HR4.out.bel.size
            have HM5 : Hid ((w4.alloc (.cells #[.string name, .int .i64 lo, .int .i64 hi, .nilFunc, .bool false, .func f1 a1 c1] 36)).drew.heap[mb]? = some (.map #[] 0)) := (Below.heap_alloc w4 _ _ (heap_lt hmp)).trans hmp
            have hU := fun v => run_update_empty (w4.alloc (.cells #[.string name, .int .i64 lo, .int .i64 hi, .nilFunc, .bool false, .func f1 a1 c1] 36)).drew mb name v HM5.out
            have hpm := HR4.out.pne
            have hrm : w.heap.size ≠ mb := fun e => Nat.lt_irrefl _ (e ▸ HR4.out.mlt)
            clear hmp
            go_wp2
            go_region_held3 (fun w' => w'.cell? ⟨pb, 0, none⟩ = some (.map (some mb)) ∧ w'.cell? ⟨w.heap.size, 0, none⟩ = some (.string name) ∧ w'.cell? ⟨w.heap.size, 1, none⟩ = some (.int .i64 lo) ∧ w'.cell? ⟨w.heap.size, 2, none⟩ = some (.int .i64 hi) ∧ w'.cell? ⟨w.heap.size, 3, none⟩ = some .nilFunc ∧ w'.cell? ⟨w.heap.size, 4, none⟩ = some (.bool false) ∧ w'.cell? ⟨w.heap.size, 5, none⟩ = some (.func f1 a1 c1))
              (first | go_keep | (simp only [setMap_cell hpm, setMap_cell hrm]; go_keep))
              (first | (go_at_call 36; refine (runOf _ _ _ _ _ _ _).mono ?_; rintro e w5 ⟨rfl, rfl⟩))
            all_goals
              have HK : Hid (Kept mb w (setMap (w4.alloc (.cells #[.string name, .int .i64 lo, .int .i64 hi, .nilFunc, .bool false, .func f1 a1 c1] 36)).drew mb #[⟨.string name, .agg #[.string name, .int .i64 lo, .int .i64 hi, .nilFunc, .bool false, .func f1 a1 c1, .func (.func 44) #[] #[.pointer (some ⟨w4.heap.size, 0, none⟩)]], 0⟩] 1)) :=
                Kept.set (HR4.out.bel.trans ((((Below.refl _ w4).alloc (Nat.le_refl _) _).drew).mono HR4.out.bel.size)) _ _
              have HE : Hid ((setMap (w4.alloc (.cells #[.string name, .int .i64 lo, .int .i64 hi, .nilFunc, .bool false, .func f1 a1 c1] 36)).drew mb #[⟨.string name, .agg #[.string name, .int .i64 lo, .int .i64 hi, .nilFunc, .bool false, .func f1 a1 c1, .func (.func 44) #[] #[.pointer (some ⟨w4.heap.size, 0, none⟩)]], 0⟩] 1).heap[mb]? = some (.map #[⟨.string name, .agg #[.string name, .int .i64 lo, .int .i64 hi, .nilFunc, .bool false, .func f1 a1 c1, .func (.func 44) #[] #[.pointer (some ⟨w4.heap.size, 0, none⟩)]], 0⟩] 1)) := setMap_at HM5.out
              clear hU hpc y0 y1 y2 y3 y4 y5
              generalize setMap _ mb _ 1 = wf at HK HE ⊢
              go_wp2
              go_ret
              exact .inr ⟨HV2.out, rfl, HK.out, _, _, _, HE.out⟩
        · clear hbad
          go_wp2
          have hmp := HRR.out.mp
          have hA := run_lookup_empty w1.drew mb name hmp
          have hB := run_lookup_empty (w1.alloc (.cells #[.string ⟨#[]⟩, .int .i64 0, .int .i64 0, .nilFunc, .bool false, .nilFunc, .nilFunc] 42)).drew mb name ((Below.heap_alloc w1 _ _ (heap_lt hmp)).trans hmp)
          have hrlt := HRR.out.rlt
          have hplt : pb < w1.heap.size := Nat.lt_of_lt_of_le HRR.out.plt HRR.out.bel.size
          clear hmp
          go_region
          all_goals
            have HR4 : Hid (RS mb pb w.heap.size name lo hi f1 a1 c1 w (w1.alloc (.cells #[.string ⟨#[]⟩, .int .i64 0, .int .i64 0, .nilFunc, .bool false, .nilFunc, .nilFunc] 42)).drew) := HRR.out.of_below (((Below.refl _ _).alloc (Nat.le_refl _) _).drew)
            clear HRR hA hB hrlt hplt hpc y0 y1 y2 y3 y4 y5
            generalize (w1.alloc (.cells #[.string ⟨#[]⟩, .int .i64 0, .int .i64 0, .nilFunc, .bool false, .nilFunc, .nilFunc] 42)).drew = w4 at HR4 ⊢
            obtain ⟨y0, y1, y2, y3, y4, y5⟩ := HR4.out.cells
            have hpc := HR4.out.pc
            have hrlt := HR4.out.rlt
            have hmp := HR4.out.mp
            have hplt : pb < w4.heap.size := Nat.lt_of_lt_of_le HR4.out.plt HR4.out.bel.size
            have HM5 : Hid ((w4.alloc (.cells #[.string name, .int .i64 lo, .int .i64 hi, .nilFunc, .bool false, .func f1 a1 c1] 36)).drew.heap[mb]? = some (.map #[] 0)) := (Below.heap_alloc w4 _ _ (heap_lt hmp)).trans hmp
            have hU := fun v => run_update_empty (w4.alloc (.cells #[.string name, .int .i64 lo, .int .i64 hi, .nilFunc, .bool false, .func f1 a1 c1] 36)).drew mb name v HM5.out
            have hpm := HR4.out.pne
            have hrm : w.heap.size ≠ mb := fun e => Nat.lt_irrefl _ (e ▸ HR4.out.mlt)
            clear hmp
            go_wp2
            go_region_held3 (fun w' => w'.cell? ⟨pb, 0, none⟩ = some (.map (some mb)) ∧ w'.cell? ⟨w.heap.size, 0, none⟩ = some (.string name) ∧ w'.cell? ⟨w.heap.size, 1, none⟩ = some (.int .i64 lo) ∧ w'.cell? ⟨w.heap.size, 2, none⟩ = some (.int .i64 hi) ∧ w'.cell? ⟨w.heap.size, 3, none⟩ = some .nilFunc ∧ w'.cell? ⟨w.heap.size, 4, none⟩ = some (.bool false) ∧ w'.cell? ⟨w.heap.size, 5, none⟩ = some (.func f1 a1 c1))
              (first | go_keep | (simp only [setMap_cell hpm, setMap_cell hrm]; go_keep))
              (first | (go_at_call 36; refine (runOf _ _ _ _ _ _ _).mono ?_; rintro e w5 ⟨rfl, rfl⟩))
            all_goals
              have HK : Hid (Kept mb w (setMap (w4.alloc (.cells #[.string name, .int .i64 lo, .int .i64 hi, .nilFunc, .bool false, .func f1 a1 c1] 36)).drew mb #[⟨.string name, .agg #[.string name, .int .i64 lo, .int .i64 hi, .nilFunc, .bool false, .func f1 a1 c1, .func (.func 44) #[] #[.pointer (some ⟨w4.heap.size, 0, none⟩)]], 0⟩] 1)) :=
                Kept.set (HR4.out.bel.trans ((((Below.refl _ w4).alloc (Nat.le_refl _) _).drew).mono HR4.out.bel.size)) _ _
              have HE : Hid ((setMap (w4.alloc (.cells #[.string name, .int .i64 lo, .int .i64 hi, .nilFunc, .bool false, .func f1 a1 c1] 36)).drew mb #[⟨.string name, .agg #[.string name, .int .i64 lo, .int .i64 hi, .nilFunc, .bool false, .func f1 a1 c1, .func (.func 44) #[] #[.pointer (some ⟨w4.heap.size, 0, none⟩)]], 0⟩] 1).heap[mb]? = some (.map #[⟨.string name, .agg #[.string name, .int .i64 lo, .int .i64 hi, .nilFunc, .bool false, .func f1 a1 c1, .func (.func 44) #[] #[.pointer (some ⟨w4.heap.size, 0, none⟩)]], 0⟩] 1)) := setMap_at HM5.out
              clear hU hpc y0 y1 y2 y3 y4 y5
              generalize setMap _ mb _ 1 = wf at HK HE ⊢
              go_wp2
              go_ret
              exact .inr ⟨HV2.out, rfl, HK.out, _, _, _, HE.out⟩
end Go.Proofs.Qxb6616082aFmt
