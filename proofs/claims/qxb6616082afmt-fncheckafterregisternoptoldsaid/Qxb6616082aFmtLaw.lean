import Derived.Test.Qxb6616082aFmtReg
namespace Go.Proofs.Qxb6616082aFmt
open Go.RowKit Go.Extern.Stop Go.Stop Go.Extern Go.MapKept

set_option maxRecDepth 20000 in
set_option maxHeartbeats 1000000 in
theorem registerNop (F : Interp) (mb pb : Nat) (name : ByteArray) (lo hi : Int) (w : World) (hF : F.answers w.tape) (hs : name.size ≤ 1048576)
    (hm : w.heap[mb]? = some (.map #[] 0)) (hp : w.cell? ⟨pb, 0, none⟩ = some (.map (some mb))) (hpm : pb ≠ mb) :
    Calls Tryf.prog 12 #[.pointer (some ⟨pb, 0, none⟩), .string name, .int .i64 lo, .int .i64 hi] w (RegPost mb name lo hi (.func 19) #[] #[] w) := by
  have HC : Hid (Calls Tryf.prog 22 #[.pointer (some ⟨pb, 0, none⟩), .agg #[.string name, .int .i64 lo, .int .i64 hi, .nilFunc, .bool false, .func (.func 19) #[] #[]]] w (RegPost mb name lo hi (.func 19) #[] #[] w)) := register F mb pb name lo hi _ _ _ w hF hs hm hp hpm
  clear hF hm hp hpm
  go_enter Tryf.func12, Tryf.ntmps12
  go_wp2_with (first | (go_at_call 22; fail))
  refine HC.out.mono ?_
  rintro e w1 (⟨hv, g, rfl, hb⟩ | ⟨hv, rfl, hk, hh⟩)
  · have HB : Hid (RegPost mb name lo hi (.func 19) #[] #[] w (.returned (.iface 80 (.pointer (some ⟨g, 0, none⟩)))) w1) := .inl ⟨hv, g, rfl, hb⟩
    clear hv hb
    go_wp2
    go_ret
    exact HB.out
  · have HB : Hid (RegPost mb name lo hi (.func 19) #[] #[] w (.returned .nilIface) w1) := .inr ⟨hv, rfl, hk, hh⟩
    clear hv hk hh
    go_wp2
    go_ret
    exact HB.out

/-- The empty registry that the law has made: its map in block w.heap.size, itself in the next. -/
structure Reg0 (w w2 : World) : Prop where
  bel : Below w.heap.size w w2
  mp : w2.heap[w.heap.size]? = some (.map #[] 0)
  pc : w2.cell? ⟨w.heap.size + 1, 0, none⟩ = some (.map (some w.heap.size))

theorem Reg0.of_below {w w2 w3 : World} (h : Reg0 w w2) (hb : Below w2.heap.size w2 w3) : Reg0 w w3 :=
  ⟨h.bel.trans (hb.mono h.bel.size), (hb.block _ (heap_lt h.mp)).trans h.mp, (hb.cell (World.block_lt_of_cell? w2 _ h.pc)).trans h.pc⟩

theorem Reg0.make (w : World) : Reg0 w ((w.alloc (.map #[] 0)).alloc (.cells #[.map (some w.heap.size)] 46)) := by
  refine ⟨((Below.refl _ _).alloc (Nat.le_refl _) _).alloc (by simp) _, ?_, ?_⟩
  · rw [Below.heap_alloc _ _ _ (by simp)]
    exact heap_alloc_new w _
  · rw [Lib.cell_of_heap (new_two w _ _)]
    rfl

set_option linter.unusedSimpArgs false

def TruePost (w : World) (e : Ending) (w' : World) : Prop := e = .returned (.bool true) ∧ Below w.heap.size w w'

set_option maxRecDepth 20000 in
set_option maxHeartbeats 2000000 in
theorem law (F : Interp) (name : ByteArray) (lo hi : Int) (a : Option Addr) (n cap : Nat) (xs : List ByteArray) (w : World) (hF : F.answers w.tape) (hx : Args w a n xs) :
    Calls Tryf.prog 4 #[.string name, .int .i64 lo, .int .i64 hi, .slice a n cap] w (TruePost w) := by
  have HF : Hid (F.answers w.tape) := hF
  have HA : Hid (Args w a n xs) := hx
  clear hF hx
  go_enter Tryf.func4, Tryf.ntmps4
  go_wp2_with (first | (go_at_call 10; fail))
  refine (zzBytes name lo hi a n cap xs w HA.out).mono ?_
  rintro e w1 ⟨b, rfl, hw, hb⟩
  rw [hw]
  clear hw
  cases b with
  | false =>
    go_wp2
    go_ret
    exact ⟨rfl, Below.refl _ _⟩
  | true =>
    have HS : Hid (Small n xs) := hb rfl
    clear hb
    go_wp2_with (first | (go_at_call 6; fail))
    refine (overBudget name a n cap xs w HS.out HA.out).mono ?_
    rintro e w1 ⟨b, rfl, hw, hb⟩
    rw [hw]
    clear hw
    cases b with
    | true =>
      go_wp2
      go_ret
      exact ⟨rfl, Below.refl _ _⟩
    | false =>
      have HB : Hid (Budget name xs) := hb rfl
      clear hb
      have hsz : name.size ≤ 1048576 := by have := HB.out.total; omega
      go_wp2_with (first | (go_at_call 11; fail))
      refine (newProcedures w).mono ?_
      rintro e w2 ⟨rfl, hw⟩
      have HR2 : Hid (Reg0 w w2) := by rw [hw]; exact Reg0.make w
      clear hw
      go_wp2_with (first | (go_at_call 8; fail))
      refine (check_none F w.heap.size (w.heap.size + 1) name a n cap xs w2 (by rw [HR2.out.bel.tape]; exact HF.out) HB.out (HA.out.of_below (Nat.le_refl _) HR2.out.bel) HR2.out.mp HR2.out.pc).mono ?_
      rintro e w3 ⟨g3, rfl, hb3⟩
      have HR3 : Hid (Reg0 w w3) := HR2.out.of_below hb3
      clear hb3 HR2
      go_wp2_with (first | (go_at_call 12; fail))
      refine (registerNop F w.heap.size (w.heap.size + 1) name lo hi w3 (by rw [HR3.out.bel.tape]; exact HF.out) hsz HR3.out.mp HR3.out.pc (by omega)).mono ?_
      rintro e w4 (⟨hv, g4, rfl, hb4⟩ | ⟨hv, rfl, hk4, f2, a2, c2, hm4⟩)
      · have HR4 : Hid (Reg0 w w4) := HR3.out.of_below hb4
        have HV : Hid (validB name lo hi = false) := hv
        clear hb4 HR3 hv
        go_wp2_with (first | (go_at_call 13; fail))
        refine (registrationValid name lo hi w4 hsz).mono ?_
        rintro e w5 ⟨rfl, hw⟩
        rw [hw, HV.out]
        clear hw
        go_wp2_with (first | (go_at_call 8; fail))
        refine (check_none F w.heap.size (w.heap.size + 1) name a n cap xs w4 (by rw [HR4.out.bel.tape]; exact HF.out) HB.out (HA.out.of_below (Nat.le_refl _) HR4.out.bel) HR4.out.mp HR4.out.pc).mono ?_
        rintro e w6 ⟨g6, rfl, hb6⟩
        have HB6 : Hid (Below w.heap.size w w6) := HR4.out.bel.trans (hb6.mono HR4.out.bel.size)
        clear hb6
        go_wp2
        go_ret
        exact ⟨rfl, HB6.out⟩
      · have HB4 : Hid (Below w.heap.size w w4) := ⟨hk4.os.trans HR3.out.bel.os, hk4.tape.trans HR3.out.bel.tape, hk4.output.trans HR3.out.bel.output, Nat.le_trans HR3.out.bel.size hk4.size, fun k hk => (hk4.block k (Nat.lt_of_lt_of_le hk HR3.out.bel.size) (by omega)).trans (HR3.out.bel.block k hk)⟩
        have HM4 : Hid (w4.heap[w.heap.size]? = some (.map #[⟨.string name, .agg #[.string name, .int .i64 lo, .int .i64 hi, .nilFunc, .bool false, .func (.func 19) #[] #[], .func f2 a2 c2], 0⟩] 1)) := hm4
        have HP4 : Hid (w4.cell? ⟨w.heap.size + 1, 0, none⟩ = some (.map (some w.heap.size))) := (World.cell?_of_block (w := w3) (hk4.block _ (World.block_lt_of_cell? w3 _ HR3.out.pc) (by simp))).trans HR3.out.pc
        have HV : Hid (validB name lo hi = true) := hv
        clear hk4 hm4 HR3 hv
        go_wp2_with (first | (go_at_call 13; fail))
        refine (registrationValid name lo hi w4 hsz).mono ?_
        rintro e w5 ⟨rfl, hw⟩
        rw [hw, HV.out]
        clear hw
        go_wp2_with (first | (go_at_call 14; fail))
        refine (requestFits name a n cap xs w4 HB.out (HA.out.of_below (Nat.le_refl _) HB4.out)).mono ?_
        rintro e w6 ⟨rfl, hb6⟩
        have HB6 : Hid (Below w.heap.size w w6) := HB4.out.trans (hb6.mono HB4.out.size)
        have HC6 : Hid (Calls Tryf.prog 8 #[.pointer (some ⟨w.heap.size + 1, 0, none⟩), .string name, .slice a n cap] w6 (CheckPost w6 (acceptB name lo hi xs))) :=
          check_one F w.heap.size (w.heap.size + 1) name lo hi _ _ _ _ _ _ a n cap xs w6 (by rw [HB6.out.tape]; exact HF.out) HB.out (HA.out.of_below (Nat.le_refl _) HB6.out) ((hb6.block _ (heap_lt HM4.out)).trans HM4.out) ((hb6.cell (World.block_lt_of_cell? w4 _ HP4.out)).trans HP4.out)
        have HL : Hid (xs.length = n) := HA.out.len
        clear hb6 HM4 HP4 HB4
        by_cases hc : csz name xs ≤ 1048576
        · rw [decide_eq_true hc]
          by_cases h1 : lo ≤ (n : Int)
          · by_cases h2 : hi < 0
            · go_wp2_with (first | (go_at_call 8; fail))
              refine HC6.out.mono ?_
              rintro e w7 (⟨hv, rfl, hb7⟩ | ⟨hv, g7, rfl, hb7⟩)
              · have HB7 : Hid (Below w.heap.size w w7) := HB6.out.trans (hb7.mono HB6.out.size)
                clear hb7 hv
                go_wp2
                go_ret
                exact ⟨by first | rfl | (simp; omega), HB7.out⟩
              · exfalso
                simp [acceptB, HL.out, hc, h2] at hv
                try omega
            · by_cases h3 : (n : Int) ≤ hi
              · go_wp2_with (first | (go_at_call 8; fail))
                refine HC6.out.mono ?_
                rintro e w7 (⟨hv, rfl, hb7⟩ | ⟨hv, g7, rfl, hb7⟩)
                · have HB7 : Hid (Below w.heap.size w w7) := HB6.out.trans (hb7.mono HB6.out.size)
                  clear hb7 hv
                  go_wp2
                  go_ret
                  exact ⟨by first | rfl | (simp; omega), HB7.out⟩
                · exfalso
                  simp [acceptB, HL.out, hc, h2, h3] at hv
                  try omega
              · go_wp2_with (first | (go_at_call 8; fail))
                refine HC6.out.mono ?_
                rintro e w7 (⟨hv, rfl, hb7⟩ | ⟨hv, g7, rfl, hb7⟩)
                · exfalso
                  simp [acceptB, HL.out, hc, h2, h3] at hv
                  try omega
                · have HB7 : Hid (Below w.heap.size w w7) := HB6.out.trans (hb7.mono HB6.out.size)
                  clear hb7 hv
                  go_wp2
                  go_ret
                  exact ⟨by first | rfl | (simp; omega), HB7.out⟩
          · go_wp2_with (first | (go_at_call 8; fail))
            refine HC6.out.mono ?_
            rintro e w7 (⟨hv, rfl, hb7⟩ | ⟨hv, g7, rfl, hb7⟩)
            · exfalso
              simp [acceptB, HL.out, hc] at hv
              try omega
            · have HB7 : Hid (Below w.heap.size w w7) := HB6.out.trans (hb7.mono HB6.out.size)
              clear hb7 hv
              go_wp2
              go_ret
              exact ⟨by first | rfl | (simp; omega), HB7.out⟩
        · rw [decide_eq_false hc]
          go_wp2_with (first | (go_at_call 8; fail))
          refine HC6.out.mono ?_
          rintro e w7 (⟨hv, rfl, hb7⟩ | ⟨hv, g7, rfl, hb7⟩)
          · exfalso
            simp [acceptB, HL.out, hc] at hv
            try omega
          · have HB7 : Hid (Below w.heap.size w w7) := HB6.out.trans (hb7.mono HB6.out.size)
            clear hb7 hv
            go_wp2
            go_ret
            exact ⟨by first | rfl | (simp; omega), HB7.out⟩
end Go.Proofs.Qxb6616082aFmt
