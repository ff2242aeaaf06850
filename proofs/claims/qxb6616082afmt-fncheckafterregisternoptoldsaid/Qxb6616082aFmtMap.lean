import Derived.Test.Qxb6616082aFmtAny
import Derived.MapKept
import Derived.Laws.EntriesVeiled
import Derived.Deep.RegionHeld3
import Derived.Deep.RegionLaw
namespace Go.Proofs.Qxb6616082aFmt
open Go.RowKit Go.Extern.Stop Go.Stop Go.Extern Go.MapKept

theorem heap_lt {w : World} {k : Nat} {o : Obj} (h : w.heap[k]? = some o) : k < w.heap.size := (Array.getElem?_eq_some_iff.1 h).1

theorem bytes_self (s : ByteArray) : (s == s) = true := by
  rcases s with ⟨d⟩
  show (d == d) = true
  simp

theorem run_lookup_empty (w : World) (mb : Nat) (s : ByteArray) (h : w.heap[mb]? = some (.map #[] 0)) :
    (Instr.lookup 44 (.map (some mb)) (.string s) true).run Tryf.prog w = .ok (.tuple #[.agg #[.string ⟨#[]⟩, .int .i64 0, .int .i64 0, .nilFunc, .bool false, .nilFunc, .nilFunc], .bool false]) w := by
  have h1 : (Instr.checkKey true 10000 9 (.string s)).run Tryf.prog w = .ok () w := Go.MapKept.run_checkKey (k := .string s) Tryf.underlying9 trivial true 9999
  have h2 := Go.MapKept.run_findKey (P := Tryf.prog) (w := w) (k := .string s) (l := []) (a := none) Tryf.underlying9 rfl
  simp [Instr.lookup, Sem.run_bind, run_underlying Tryf.underlying44, Go.MapKept.run_getObj_map h, Result.andThen, h1, h2]

theorem run_lookup_one (w : World) (mb : Nat) (s : ByteArray) (v : Value) (h : w.heap[mb]? = some (.map #[⟨.string s, v, 0⟩] 1)) :
    (Instr.lookup 44 (.map (some mb)) (.string s) true).run Tryf.prog w = .ok (.tuple #[v, .bool true]) w := by
  have h1 : (Instr.checkKey false 10000 9 (.string s)).run Tryf.prog w = .ok () w := Go.MapKept.run_checkKey (k := .string s) Tryf.underlying9 trivial false 9999
  have h2 := Go.MapKept.run_findKey (P := Tryf.prog) (w := w) (k := .string s) (l := [⟨.string s, v, 0⟩]) (a := some (0, v)) Tryf.underlying9 (by simp [Instr.findNow, Instr.sameNow, bytes_self])
  simp [Instr.lookup, Sem.run_bind, run_underlying Tryf.underlying44, Go.MapKept.run_getObj_map h, Result.andThen, h1, h2]

def setMap (w : World) (mb : Nat) (es : Array MapEntry) (c : Nat) : World := { w with heap := w.heap.setIfInBounds mb (.map es c) }

theorem run_update_empty (w : World) (mb : Nat) (s : ByteArray) (v : Value) (h : w.heap[mb]? = some (.map #[] 0)) :
    (Instr.mapUpdate 44 (.map (some mb)) (.string s) v).run Tryf.prog w = .ok () (setMap w mb #[⟨.string s, v, 0⟩] 1) := by
  have h1 : (Instr.checkKey false 10000 9 (.string s)).run Tryf.prog w = .ok () w := Go.MapKept.run_checkKey (k := .string s) Tryf.underlying9 trivial false 9999
  have h2 := Go.MapKept.run_findKey (P := Tryf.prog) (w := w) (k := .string s) (l := []) (a := none) Tryf.underlying9 rfl
  simp [Instr.mapUpdate, Sem.run_bind, run_underlying Tryf.underlying44, Go.MapKept.run_getObj_map h, Result.andThen, h1, h2, Go.MapKept.run_setObj_map _ h, setMap]

@[go_sem] theorem neq_nilFunc (w : World) : (binOp .neq 32 .nilFunc .nilFunc).run Tryf.prog w = .ok (.bool false) w := by kernel_rfl
@[go_sem] theorem eql_func (f : Fn) (a c : Array Value) (w : World) : (binOp .eql 34 (.func f a c) .nilFunc).run Tryf.prog w = .ok (.bool false) w := by kernel_rfl

theorem new_two (w : World) (o o' : Obj) : ((w.alloc o).alloc o').heap[w.heap.size + 1]? = some o' := by
  have := heap_alloc_new (w.alloc o) o'
  simpa using this

set_option maxRecDepth 20000 in
set_option maxHeartbeats 1000000 in
theorem check_none (F : Interp) (mb pb : Nat) (name : ByteArray) (a : Option Addr) (n cap : Nat) (xs : List ByteArray) (w : World) (hF : F.answers w.tape) (hb : Budget name xs) (hx : Args w a n xs)
    (hm : w.heap[mb]? = some (.map #[] 0)) (hp : w.cell? ⟨pb, 0, none⟩ = some (.map (some mb))) :
    Calls Tryf.prog 8 #[.pointer (some ⟨pb, 0, none⟩), .string name, .slice a n cap] w (ErrPost w) := by
  have HF : Hid (F.answers w.tape) := hF
  have HC : Hid (Calls Tryf.prog 23 #[.string name, .slice a n cap] w (SizePost w name xs)) := checkSize F name a n cap xs w hF hb hx
  have HM : Hid (w.heap[mb]? = some (.map #[] 0)) := hm
  have HP : Hid (w.cell? ⟨pb, 0, none⟩ = some (.map (some mb))) := hp
  clear hF hb hx hm hp
  go_enter Tryf.func8, Tryf.ntmps8
  go_wp2_with (first | (go_at_call 23; fail))
  refine HC.out.mono ?_
  rintro e w1 (⟨hs, rfl, hb1⟩ | ⟨hs, g, rfl, hb1⟩)
  · have hlk := fun s => run_lookup_empty w1 mb s ((hb1.block mb (heap_lt HM.out)).trans HM.out)
    have hp1 : w1.cell? ⟨pb, 0, none⟩ = some (.map (some mb)) := (hb1.cell (World.block_lt_of_cell? w _ HP.out)).trans HP.out
    have HB1 : Hid (Below w.heap.size w w1) := hb1
    clear hb1
    go_wp2_with (first | (go_at_call 24; fail))
    have hb2 := ((HB1.out.alloc HB1.out.size (.cells #[.string ⟨#[]⟩, .int .i64 0, .int .i64 0, .nilFunc, .bool false, .nilFunc, .nilFunc] 42)).alloc (by simp; exact Nat.le_succ_of_le HB1.out.size) (.cells #[.iface 9 (.string name)] 20))
    refine (errorf_unknown F name (w1.heap.size + 1) _ (by rw [hb2.tape]; exact HF.out) (new_two w1 _ _)).mono ?_
    rintro e w2 ⟨g, rfl, hb3⟩
    have HB3 : Hid (Below w.heap.size w w2) := hb2.trans (hb3.mono hb2.size)
    clear hb2 hb3
    go_wp2
    go_ret
    exact ⟨g, rfl, HB3.out⟩
  · have HB1 : Hid (Below w.heap.size w w1) := hb1
    clear hb1
    go_wp2
    go_ret
    exact ⟨g, rfl, HB1.out⟩

/-- Does the registered procedure accept the call? -/
def acceptB (name : ByteArray) (lo hi : Int) (xs : List ByteArray) : Bool := decide (csz name xs ≤ 1048576) && !decide ((xs.length : Int) < lo) && (decide (hi < 0) || decide ((xs.length : Int) ≤ hi))
def CheckPost (w : World) (b : Bool) (e : Ending) (w' : World) : Prop := (b = true ∧ e = .returned .nilIface ∧ Below w.heap.size w w') ∨ (b = false ∧ ErrPost w e w')

set_option maxRecDepth 20000 in
set_option maxHeartbeats 2000000 in
theorem check_one (F : Interp) (mb pb : Nat) (name : ByteArray) (lo hi : Int) (f1 f2 : Fn) (a1 a2 c1 c2 : Array Value) (a : Option Addr) (n cap : Nat) (xs : List ByteArray) (w : World) (hF : F.answers w.tape) (hb : Budget name xs) (hx : Args w a n xs)
    (hm : w.heap[mb]? = some (.map #[⟨.string name, .agg #[.string name, .int .i64 lo, .int .i64 hi, .nilFunc, .bool false, .func f1 a1 c1, .func f2 a2 c2], 0⟩] 1)) (hp : w.cell? ⟨pb, 0, none⟩ = some (.map (some mb))) :
    Calls Tryf.prog 8 #[.pointer (some ⟨pb, 0, none⟩), .string name, .slice a n cap] w (CheckPost w (acceptB name lo hi xs)) := by
  have HL : Hid (xs.length = n) := hx.len
  have HF : Hid (F.answers w.tape) := hF
  have HC : Hid (Calls Tryf.prog 23 #[.string name, .slice a n cap] w (SizePost w name xs)) := checkSize F name a n cap xs w hF hb hx
  have HM : Hid (w.heap[mb]? = some (.map #[⟨.string name, .agg #[.string name, .int .i64 lo, .int .i64 hi, .nilFunc, .bool false, .func f1 a1 c1, .func f2 a2 c2], 0⟩] 1)) := hm
  have HP : Hid (w.cell? ⟨pb, 0, none⟩ = some (.map (some mb))) := hp
  clear hF hb hx hm hp
  go_enter Tryf.func8, Tryf.ntmps8
  go_wp2_with (first | (go_at_call 23; fail))
  refine HC.out.mono ?_
  rintro e w1 (⟨hs, rfl, hb1⟩ | ⟨hs, g, rfl, hb1⟩)
  · have hlk := run_lookup_one w1 mb name _ ((hb1.block mb (heap_lt HM.out)).trans HM.out)
    have hp1 : w1.cell? ⟨pb, 0, none⟩ = some (.map (some mb)) := (hb1.cell (World.block_lt_of_cell? w _ HP.out)).trans HP.out
    have HB1 : Hid (Below w.heap.size w w1) := hb1
    clear hb1
    by_cases h1 : (n : Int) < lo
    · go_wp2_with (first | (go_at_call 25; fail))
      have hb2 := HB1.out.alloc HB1.out.size (.cells #[.string name, .int .i64 lo, .int .i64 hi, .nilFunc, .bool false, .func f1 a1 c1, .func f2 a2 c2] 42)
      refine (arity F lo hi _ (by rw [hb2.tape]; exact HF.out)).mono ?_
      rintro e w3 ⟨st, rfl, hb3⟩
      have hb4 := hb2.trans (hb3.mono hb2.size)
      have HB4 : Hid (Below w.heap.size w w3) := hb4
      clear hb2 hb3 hb4
      go_wp2_with (first | (go_at_call 24; fail))
      have hb5 := HB4.out.alloc HB4.out.size (.cells #[.iface 9 (.string name), .iface 9 (.string st), .iface 3 (.int .i64 n)] 20)
      refine (errorf_takes F name st n w3.heap.size _ (by rw [hb5.tape]; exact HF.out) (heap_alloc_new w3 _)).mono ?_
      rintro e w6 ⟨g, rfl, hb6⟩
      have HB6 : Hid (Below w.heap.size w w6) := hb5.trans (hb6.mono hb5.size)
      clear hb5 hb6
      go_wp2
      go_ret
      exact .inr ⟨by simp [acceptB, HL.out]; omega, g, rfl, HB6.out⟩
    · by_cases h2 : 0 ≤ hi
      · by_cases h3 : hi < (n : Int)
        · go_wp2_with (first | (go_at_call 25; fail))
          have hb2 := HB1.out.alloc HB1.out.size (.cells #[.string name, .int .i64 lo, .int .i64 hi, .nilFunc, .bool false, .func f1 a1 c1, .func f2 a2 c2] 42)
          refine (arity F lo hi _ (by rw [hb2.tape]; exact HF.out)).mono ?_
          rintro e w3 ⟨st, rfl, hb3⟩
          have hb4 := hb2.trans (hb3.mono hb2.size)
          have HB4 : Hid (Below w.heap.size w w3) := hb4
          clear hb2 hb3 hb4
          go_wp2_with (first | (go_at_call 24; fail))
          have hb5 := HB4.out.alloc HB4.out.size (.cells #[.iface 9 (.string name), .iface 9 (.string st), .iface 3 (.int .i64 n)] 20)
          refine (errorf_takes F name st n w3.heap.size _ (by rw [hb5.tape]; exact HF.out) (heap_alloc_new w3 _)).mono ?_
          rintro e w6 ⟨g, rfl, hb6⟩
          have HB6 : Hid (Below w.heap.size w w6) := hb5.trans (hb6.mono hb5.size)
          clear hb5 hb6
          go_wp2
          go_ret
          exact .inr ⟨by simp [acceptB, HL.out]; omega, g, rfl, HB6.out⟩
        · go_wp2
          go_ret
          exact .inl ⟨by simp [acceptB, hs, HL.out]; omega, rfl, HB1.out.alloc HB1.out.size _⟩
      · go_wp2
        go_ret
        exact .inl ⟨by simp [acceptB, hs, HL.out]; omega, rfl, HB1.out.alloc HB1.out.size _⟩
  · have HB1 : Hid (Below w.heap.size w w1) := hb1
    clear hb1
    go_wp2
    go_ret
    exact .inr ⟨by simp [acceptB, hs], g, rfl, HB1.out⟩
end Go.Proofs.Qxb6616082aFmt
