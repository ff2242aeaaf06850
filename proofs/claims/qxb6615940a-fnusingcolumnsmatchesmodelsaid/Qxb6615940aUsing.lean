import Derived.Test.Qxb6615940aTable
import Derived.Test.Qxb6615940aMentions
import Derived.Test.Qxb6615940aNewCol
import Derived.Deep.QuietTactic
import Derived.BigQuiet
import Derived.Deep.DeepCutAuto
import Derived.Test.Qxb6615940aTypes
import Derived.Test.Qxb6615940aLoop3
namespace Go.Proofs.Qxb6615940a
open Go.RowKit Go.Maps

/-- The kinds whose text may name the table. -/
def specialB (kd : ByteArray) : Bool := !(kd.toList == [100, 101, 102, 97, 117, 108, 116]) && !(kd.toList == [103, 101, 110, 101, 114, 97, 116, 105, 111, 110, 32, 101, 120, 112, 114, 101, 115, 115, 105, 111, 110])

/-- The call's own two boxes: the key and the result. -/
structure U1 (w wc : World) (kd tx ct cl tb : ByteArray) : Prop where
  below : Below w.heap.size w wc
  box : wc.heap[w.heap.size]? = some (.cells #[.string kd, .string tx, .string ct, .string cl, .string tb] 51 (0, 0))
  res : wc.heap[w.heap.size + 1]? = some (.cells #[.string ⟨#[]⟩, .string ⟨#[]⟩, .string ⟨#[]⟩, .string ⟨#[]⟩, .string ⟨#[]⟩] 51 (0, 0))

theorem U1.start (w : World) (kd tx ct cl tb : ByteArray) (nq : Nat) :
    U1 w (((w.alloc (.cells #[.string kd, .string tx, .string ct, .string cl, .string tb] 51)).alloc (.cells #[.string ⟨#[]⟩, .string ⟨#[]⟩, .string ⟨#[]⟩, .string ⟨#[]⟩, .string ⟨#[]⟩] 51)).drewN nq) kd tx ct cl tb := by
  refine ⟨?_, ?_, ?_⟩
  · exact below_drewN (((Below.refl _ _).alloc (Nat.le_refl _) _).alloc (by simp) _) nq
  · rw [World.heap_drewN]
    show ((w.heap.push _).push _)[w.heap.size]? = _
    simp [Array.getElem?_push]
  · rw [World.heap_drewN]
    show ((w.heap.push _).push _)[w.heap.size + 1]? = _
    rw [Array.getElem?_push, if_pos (by simp)]

/-- The box behind the store of the table's name. -/
theorem U1.store {w wc : World} {kd tx ct cl tb : ByteArray} (h : U1 w wc kd tx ct cl tb) (nm : ByteArray) : U1 w (wc.setCell ⟨w.heap.size, 4, none⟩ (.string nm)) kd tx ct cl nm := by
  refine ⟨h.below.setCell (Nat.le_refl _) _, ?_, ?_⟩
  · simp [World.setCell, Array.getElem?_modify, h.box]
  · rw [Below.heap_setCell _ _ _ _ (by simp)]
    exact h.res

theorem U1.grown {w wc wr : World} {kd tx ct cl tb : ByteArray} (h : U1 w wc kd tx ct cl tb) (hb : Below (w.heap.size + 2) wc wr) : U1 w wr kd tx ct cl tb :=
  ⟨h.below.trans (hb.mono (by omega)), (hb.block _ (by omega)).trans h.box, (hb.block _ (by omega)).trans h.res⟩

theorem U1.size {w wc : World} {kd tx ct cl tb : ByteArray} (h : U1 w wc kd tx ct cl tb) : w.heap.size + 2 ≤ wc.heap.size := lt_of_block h.res

/-- The names that are used, in a row that can be read. -/
structure U2 (w wc : World) (kd tx ct cl tb : ByteArray) (a : Option Addr) (n : Nat) (names : List ByteArray) : Prop where
  u1 : U1 w wc kd tx ct cl tb
  row : StrRow wc a n names

theorem StrRow.below {B : Nat} {w w' : World} {a : Option Addr} {len : Nat} {us : List ByteArray} (h : StrRow w a len us) (hb : Below B w w') (hB : w.heap.size ≤ B) : StrRow w' a len us := by
  obtain ⟨hl, h⟩ := h
  refine ⟨hl, fun h0 => ?_⟩
  obtain ⟨b, off, ha, hg, hc⟩ := h h0
  exact ⟨b, off, ha, Nat.lt_of_lt_of_le hg hb.size, fun i s hi => (hb.cell (p := ⟨b, off + i, none⟩) (by show b < B; omega)).trans (hc i s hi)⟩

theorem cell_two_new (w : World) (o : Obj) (x : Value) (t : TypeId) : ∀ j u, [x][j]? = some u → ((w.alloc o).alloc (.cells #[x] t)).cell? ((⟨w.heap.size + 1, 0, none⟩ : Addr).add j) = some u := by
  intro j u hu
  have := cell_one_new (w.alloc o) x t j u hu
  simpa using this
theorem one_cell_string (s : ByteArray) : ∀ u ∈ [Value.string s], u.oneCell' = true := by
  intro u hu
  simp at hu
  subst hu
  rfl
theorem names_snoc {cs : List (ByteArray × ByteArray)} {k : Nat} {s t : ByteArray} (h : cs[k]? = some (s, t)) : (((cs.map Prod.fst).take (k + 1)).map Value.string) = ((cs.map Prod.fst).take k).map Value.string ++ [Value.string s] := by
  rw [take_snoc (c := s) (by rw [List.getElem?_map, h]; rfl), List.map_append]
  rfl
theorem Try.size42 (c : ByteArray × ByteArray) : (Try.prog.info? 42).map (·.size) = some (colCells c).length := by kernel_rfl
theorem StrRow.of_owns {w : World} {base : Nat} {v : Value} {n : Nat} {names : List ByteArray} (h : w.ownsRow base 9 1 v n (names.map Value.string)) (hl : names.length = n) : ∃ a c, v = .slice a n c ∧ StrRow w a n names := by
  have hlt := h.lt
  rcases h.2 with ⟨rfl, rfl⟩ | ⟨g, cap, cur, rfl, _⟩
  · exact ⟨none, 0, rfl, hl, fun h0 => absurd h0 (Nat.lt_irrefl _)⟩
  · refine ⟨_, _, rfl, hl, fun h0 => ⟨g, 0, rfl, (hlt g rfl).2, fun i s hi => ?_⟩⟩
    have hin := (List.getElem?_eq_some_iff.1 hi).1
    rw [Nat.zero_add, h.cellAt i (by omega), List.getElem?_map, hi]
    rfl
theorem run_makeMap55 (w : World) (n : Int) : (Instr.makeMap 55 (some (.int .i64 n))).run Try.prog w = .ok (.map (some w.heap.size)) (w.alloc (.map #[] 0)) := by
  kernel_rfl
theorem Try.info9 : (Try.prog.info? 9).map (fun i => (i.zero, i.size, i.bytes)) = some (some (.string ⟨#[]⟩), 1, 16) := by kernel_rfl

theorem ownsRow_base {w : World} {b b' : Nat} {e : TypeId} {size : Nat} {v : Value} {n : Nat} {xs : List Value} (h : w.ownsRow b e size v n xs) (hb : b' ≤ b) : w.ownsRow b' e size v n xs := by
  obtain ⟨h1, h2⟩ := h
  refine ⟨h1, ?_⟩
  rcases h2 with h2 | ⟨g, cap, cur, hv, hg, r⟩
  · exact .inl h2
  · exact .inr ⟨g, cap, cur, hv, Nat.le_trans hb hg, r⟩

def wholeB (nm kd tx : ByteArray) : Bool := specialB kd && mentB tx nm

def namesOf (nm kd tx : ByteArray) (cs : List (ByteArray × ByteArray)) (us : List ByteArray) : List ByteArray := if wholeB nm kd tx = true then cs.map Prod.fst else us

/-- What usingColumns hands back. -/
def UsingPost (w : World) (nm kd tx ct tb : ByteArray) (cs : List (ByteArray × ByteArray)) (us : List ByteArray) (e : Ending) (w' : World) : Prop :=
  ∃ out, e = .returned (.tuple #[.agg #[.string kd, .string tx, .string ct, .string ⟨(colsText cs (namesOf nm kd tx cs us)).toArray⟩, .string (if wholeB nm kd tx = true then nm else tb)], out]) ∧ Below w.heap.size w w' ∧
    w'.ownsRow w.heap.size 42 23 out (namesOf nm kd tx cs us).length (colsCells cs (namesOf nm kd tx cs us)) ∧ ((namesOf nm kd tx cs us).length = 0 → out = .slice none 0 0)

set_option maxRecDepth 20000 in
set_option maxHeartbeats 2000000 in
theorem usingColumns (nm kd tx ct cl tb : ByteArray) (p : Nat) (cs : List (ByteArray × ByteArray)) (a7 : Option Addr) (len7 cap7 : Nat) (us : List ByteArray) (w : World) (m : Int)
    (hm : w.cell? ⟨0, 0, none⟩ = some (.int .i64 m)) (hw0 : 0 < w.heap.size) (ht : Table w p nm cs) (hu : StrRow w a7 len7 us) (hnm : nm.size ≤ 1048576) (htx : tx.size ≤ 1048576) (hsp : specialB kd = true → 0 < nm.size) (hcl : cs.length ≤ 1048576) (hcs : ∀ (j : Nat) (c : ByteArray × ByteArray), cs[j]? = some c → c.1.size ≤ 1048576 ∧ c.2.size ≤ 1048576) (hul : len7 ≤ 1048576) (hus : ∀ (j : Nat) (u : ByteArray), us[j]? = some u → u.size ≤ 1048576) :
    Calls Try.prog 11 #[.pointer (some ⟨p, 0, none⟩), .agg #[.string kd, .string tx, .string ct, .string cl, .string tb], .slice a7 len7 cap7] w (UsingPost w nm kd tx ct tb cs us) := by
  have ht0 := ht.c0
  have hlt := ht.lt
  have HT : Hid (Table w p nm cs) := ht
  have HU : Hid (StrRow w a7 len7 us) := hu
  have HS : Hid (specialB kd = true → 0 < nm.size) := hsp
  clear ht hu hsp
  go_enter Try.func11, Try.ntmps11
  go_wp2
  go_cut [33] (fun b wc => ∃ W : Bool, b = .bool W ∧ Hid (W = wholeB nm kd tx) ∧ U1 w wc kd tx ct cl tb)
  case first =>
    by_cases k1 : (kd.toList == [100, 101, 102, 97, 117, 108, 116]) = true
    · go_quiet (fail)
      go_wp2
      go_meet
      refine ⟨_, rfl, ?_, U1.start _ _ _ _ _ _ _⟩
      show _ = _
      simp [wholeB, specialB, k1]
    · have k1' : (kd.toList == [100, 101, 102, 97, 117, 108, 116]) = false := by simpa using k1
      clear k1
      by_cases k2 : (kd.toList == [103, 101, 110, 101, 114, 97, 116, 105, 111, 110, 32, 101, 120, 112, 114, 101, 115, 115, 105, 111, 110]) = true
      · go_quiet (fail)
        go_wp2
        go_meet
        refine ⟨_, rfl, ?_, U1.start _ _ _ _ _ _ _⟩
        show _ = _
        simp [wholeB, specialB, k2]
      · have k2' : (kd.toList == [103, 101, 110, 101, 114, 97, 116, 105, 111, 110, 32, 101, 120, 112, 114, 101, 115, 115, 105, 111, 110]) = false := by simpa using k2
        clear k2
        have hs : specialB kd = true := by simp [specialB, k1', k2']
        have hn0 := HS.out hs
        clear hs
        go_quiet ((go_at_call 13; exact Calls.quiet_of_same ((mentions _ _ _ m (by exact ((U1.start w kd tx ct cl tb _).below.cell (p := ⟨0, 0, none⟩) hw0).trans hm) htx hnm hn0).mono fun e w' h => ⟨h.1, h.2.symm⟩)))
        go_wp2
        go_meet
        refine ⟨_, rfl, ?_, U1.start _ _ _ _ _ _ _⟩
        show _ = _
        simp [wholeB, specialB, k1', k2']
  case rest =>
    obtain ⟨W, rfl, HW, hU⟩ := hcut
    have hUs := hU.size
    go_upto_if 33 with fail
    go_cut [2] (fun u wd => ∃ a n c, u = .slice a n c ∧ U2 w wd kd tx ct cl (if W = true then nm else tb) a n (if W = true then cs.map Prod.fst else us))
    case first =>
      cases W with
      | true =>
        obtain ⟨a, cap, tc1, trow⟩ := HT.out.c1
        have d0 := (hU.below.cell (p := ⟨p, 0, none⟩) hlt).trans ht0
        have d1 := (hU.below.cell (p := ⟨p, 1, none⟩) hlt).trans tc1
        have d4 : wc.cell? ⟨w.heap.size, 4, none⟩ = some (.string tb) := by rw [Lib.cell_of_heap hU.box]; rfl
        have f4 : wc.frozen? ⟨w.heap.size, 4, none⟩ = false := Lib.frozen_of_heap hU.box 4
        have hne : p ≠ w.heap.size := by omega
        go_wp2
        have hV := hU.store nm
        have hVt : TabRow (wc.setCell ⟨w.heap.size, 4, none⟩ (.string nm)) a cs.length cs := trow.below hV.below (Nat.le_refl _)
        obtain ⟨wv, hwv⟩ : ∃ wv, wv = wc.setCell ⟨w.heap.size, 4, none⟩ (.string nm) := ⟨_, rfl⟩
        rw [← hwv] at hV hVt ⊢
        clear hwv d0 d1 d4 f4 trow hU tc1
        obtain ⟨i0, hi, hz0, hz1, hz2⟩ := info_parts Try.info9
        have hVs := hV.size
        go_loopw [2, 44] (fun u i wr => ∃ k : Nat, k ≤ cs.length ∧ i = .int .i64 k ∧ wr.ownsRow wv.heap.size 9 1 u k (((cs.map Prod.fst).take k).map Value.string) ∧ Below wv.heap.size wv wr) (fun _ i _ => cs.length - (intOf i).toNat)
        case atStart => exact ⟨0, Nat.zero_le _, rfl, World.ownsRow_nil _ _ _ _, Below.refl _ _⟩
        case round =>
          obtain ⟨k, hk, rfl, hown, hbel⟩ := hrel
          have hbs := hbel.size
          by_cases hk2 : k < cs.length
          · obtain ⟨g, ha, hg, hc⟩ := hVt.2 (by omega)
            obtain ⟨s, t, hck⟩ : ∃ s t, cs[k]? = some (s, t) := ⟨_, _, List.getElem?_eq_getElem hk2⟩
            subst ha
            have HR : Hid (wr.rangeAt g (k * 23) (colCells (s, t))) := fun j x hx => (hbel.cell (p := ⟨g, k * 23 + j, none⟩) hg).trans (hc k _ hck j x hx)
            have HCK : Hid (cs[k]? = some (s, t)) := hck
            clear hck hc hVt HT HU HS
            have c42 : Try.prog.cellsOf 42 = 23 := by kernel_rfl
            go_wp2_with (first
              | (refine wpList_load_mid rfl 42 (.tmp 46) rfl g (k * 23) rfl [.string s, .string t, .bool false, .string ⟨#[]⟩, .string ⟨#[]⟩, .slice none 0 0, .slice none 0 0, .string ⟨#[]⟩, .string ⟨#[]⟩, .slice none 0 0, .slice none 0 0, .string ⟨#[]⟩, .string ⟨#[]⟩, .string ⟨#[]⟩, .int .i64 0, .int .i64 0, .int .i64 0, .int .i64 0, .int .i64 0, .bool false, .string ⟨#[]⟩, .string ⟨#[]⟩, .string ⟨#[]⟩] _ HR.out Try.underlying42 rfl (Try.size42 (s, t)) ?_)
              | (refine wpList_store_new rfl 42 (.tmp 9) (.tmp 47) rfl 42 _ [.string s, .string t, .bool false, .string ⟨#[]⟩, .string ⟨#[]⟩, .slice none 0 0, .slice none 0 0, .string ⟨#[]⟩, .string ⟨#[]⟩, .slice none 0 0, .slice none 0 0, .string ⟨#[]⟩, .string ⟨#[]⟩, .string ⟨#[]⟩, .int .i64 0, .int .i64 0, .int .i64 0, .int .i64 0, .int .i64 0, .bool false, .string ⟨#[]⟩, .string ⟨#[]⟩, .string ⟨#[]⟩] rfl rfl rfl (Try.size42 (s, t)) rfl ?_)
              | (at_builtin; refine wpList_append_own _ rfl _ _ 23 rfl wv.heap.size 9 i0 (.string ⟨#[]⟩) 1 16 Try.underlying23 hi hz0 hz1 hz2 rfl (by decide) _ _ _ rfl ((hown.alloc _).alloc _) ⟨wr.heap.size + 1, 0, none⟩ 1 1 [.string s] rfl rfl (cell_two_new _ _ _ _) (one_cell_string s) (by unfold maxLen; omega) (by omega) (by simp; omega) ?_; intro v' w1 hown1 hgrow1 _))
            go_roundw
            case rel => exact ⟨k + 1, by omega, by go_num, by rw [names_snoc HCK.out]; exact hown1, ((hbel.alloc hbs _).alloc (by simp; omega) _).grown hgrow1 (by simp; omega) (fun j hj => (hown.lt j hj).1)⟩
            case measure => simp [intOf]; omega
          · have hkk : k = cs.length := by omega
            have HK : Hid (k = cs.length) := hkk
            clear hkk
            go_wp2
            go_meet
            have hl2 : (cs.map Prod.fst).length = cs.length := List.length_map _
            rw [HK.out, List.take_of_length_le (by omega)] at hown
            obtain ⟨a', c', hv, hrow⟩ := StrRow.of_owns hown hl2
            exact ⟨a', cs.length, c', hv, ⟨hV.grown (hbel.mono hVs), hrow⟩⟩
      | false =>
        go_wp2
        go_meet
        exact ⟨a7, len7, cap7, rfl, hU, by rw [if_neg (by decide)]; exact HU.out.below hU.below (Nat.le_refl _)⟩
    case rest =>
      obtain ⟨a, n, c, rfl, hN⟩ := hcut
      obtain ⟨tb2, htb2⟩ : ∃ tb2, tb2 = if W = true then nm else tb := ⟨_, rfl⟩
      rw [← htb2] at hN
      have HTB : Hid (tb2 = if W = true then nm else tb) := htb2
      clear htb2
      have HN : Hid (U2 w wc kd tx ct cl tb2 a n (if W = true then cs.map Prod.fst else us)) := hN
      obtain ⟨ta, tcap, tc1, trow⟩ := HT.out.c1
      have hbd := HN.out.u1.below
      have e1 := (hbd.cell (p := ⟨p, 1, none⟩) hlt).trans tc1
      have hVt : TabRow wc ta cs.length cs := trow.below hbd (Nat.le_refl _)
      have hds : w.heap.size + 2 ≤ wc.heap.size := HN.out.u1.size
      have hpd : p < wc.heap.size := by omega
      have hmm := run_makeMap55
      clear hN trow tc1 hU
      go_wp2
      have hT0 : Types (wc.alloc (.map #[] 0)) wc.heap.size 0 (cs.take 0) := by simpa using Types.made wc
      have hB0 : Below wc.heap.size wc (wc.alloc (.map #[] 0)) := (Below.refl _ _).alloc (Nat.le_refl _) _
      go_loopw [65] (fun i wr => ∃ k : Nat, k ≤ cs.length ∧ i = .int .i64 k ∧ Types wr wc.heap.size k (cs.take k) ∧ Below wc.heap.size wc wr) (fun i _ => cs.length - (intOf i).toNat)
      case atStart => exact ⟨0, Nat.zero_le _, rfl, hT0, hB0⟩
      case round =>
        obtain ⟨k, hk, rfl, hty, hbel⟩ := hrel
        clear hT0 hB0
        have hbs := hbel.size
        by_cases hk2 : k < cs.length
        · obtain ⟨g, ha, hg, hc⟩ := hVt.2 (by omega)
          obtain ⟨s, t, hck⟩ : ∃ s t, cs[k]? = some (s, t) := ⟨_, _, List.getElem?_eq_getElem hk2⟩
          subst ha
          have HR : Hid (wr.rangeAt g (k * 23) (colCells (s, t))) := fun j x hx => (hbel.cell (p := ⟨g, k * 23 + j, none⟩) hg).trans (hc k _ hck j x hx)
          have HCK : Hid (cs[k]? = some (s, t)) := hck
          have hsz := hcs _ _ hck
          obtain ⟨hs1, hs2⟩ : s.size ≤ 1048576 ∧ t.size ≤ 1048576 := hsz
          clear hck hc hVt HT HU HS HN
          have c42 : Try.prog.cellsOf 42 = 23 := by kernel_rfl
          go_wp2_with (first
            | (refine wpList_load_mid rfl 42 (.tmp 67) rfl g (k * 23) rfl [.string s, .string t, .bool false, .string ⟨#[]⟩, .string ⟨#[]⟩, .slice none 0 0, .slice none 0 0, .string ⟨#[]⟩, .string ⟨#[]⟩, .slice none 0 0, .slice none 0 0, .string ⟨#[]⟩, .string ⟨#[]⟩, .string ⟨#[]⟩, .int .i64 0, .int .i64 0, .int .i64 0, .int .i64 0, .int .i64 0, .bool false, .string ⟨#[]⟩, .string ⟨#[]⟩, .string ⟨#[]⟩] _ HR.out Try.underlying42 rfl (Try.size42 (s, t)) ?_)
            | (refine wpList_store_new rfl 42 (.tmp 12) (.tmp 68) rfl 42 _ [.string s, .string t, .bool false, .string ⟨#[]⟩, .string ⟨#[]⟩, .slice none 0 0, .slice none 0 0, .string ⟨#[]⟩, .string ⟨#[]⟩, .slice none 0 0, .slice none 0 0, .string ⟨#[]⟩, .string ⟨#[]⟩, .string ⟨#[]⟩, .int .i64 0, .int .i64 0, .int .i64 0, .int .i64 0, .int .i64 0, .bool false, .string ⟨#[]⟩, .string ⟨#[]⟩, .string ⟨#[]⟩] rfl rfl rfl (Try.size42 (s, t)) rfl ?_)
            | (at_mapUpdate; refine wpList_mapUpdate_types _ rfl _ _ _ rfl wc.heap.size k (cs.take k) rfl (hty.kept (World.grownBy_alloc _ _ none) (by simp)) (by omega) s t rfl rfl hs1 hs2 ?_; intro w1 hty1 hgr1))
          go_roundw
          case rel => exact ⟨k + 1, by omega, by go_num, by rw [take_snoc HCK.out]; exact hty1, (hbel.alloc hbs _).grown hgr1 (by simp; omega) (fun j hj => by cases hj; exact Nat.le_refl _)⟩
          case measure => simp [intOf]; omega
        · have hkk : k = cs.length := by omega
          rw [hkk, List.take_of_length_le (Nat.le_refl _)] at hty
          clear hkk
          go_wp2
          obtain ⟨names, hnames⟩ : ∃ names, names = if W = true then cs.map Prod.fst else us := ⟨_, rfl⟩
          have HN2 := HN.out
          rw [← hnames] at HN2
          have HNM : Hid (names = if W = true then cs.map Prod.fst else us) := hnames
          have hnl := HN2.row.1
          have hns : ∀ (j : Nat) (u : ByteArray), names[j]? = some u → u.size ≤ 1048576 := by
            intro j u hj
            cases W with
            | true =>
              simp only [if_pos] at hnames
              rw [hnames, List.getElem?_map] at hj
              obtain ⟨x, hx, rfl⟩ := Option.map_eq_some_iff.1 hj
              exact (hcs j x hx).1
            | false =>
              simp only [Bool.false_eq_true, if_false] at hnames
              rw [hnames] at hj
              exact hus j u hj
          have hn20 : n ≤ 1048576 := by
            rw [← hnl]
            cases W with
            | true => simp only [if_pos] at hnames; rw [hnames, List.length_map]; exact hcl
            | false => simp only [Bool.false_eq_true, if_false] at hnames; rw [hnames, HU.out.1]; exact hul
          have HR3 : Hid (R3 wc wr.heap.size cs names 0 (.slice none 0 0) (wr.alloc (.cells #[.pointer none, .slice none 0 0] 58))) := R3.start names hty hbel
          have HNS : Hid (∀ (j : Nat) (u : ByteArray), names[j]? = some u → u.size ≤ 1048576) := hns
          have HCS : Hid (∀ (j : Nat) (c : ByteArray × ByteArray), cs[j]? = some c → c.1.size ≤ 1048576 ∧ c.2.size ≤ 1048576) := hcs
          have HRow : Hid (StrRow wc a n names) := HN2.row
          have HNL : Hid (names.length = n) := hnl
          obtain ⟨bb, hbb⟩ : ∃ bb, bb = wr.heap.size := ⟨_, rfl⟩
          rw [← hbb] at HR3 ⊢
          have hbbs : bb < (wr.alloc (.cells #[.pointer none, .slice none 0 0] 58)).heap.size := by rw [hbb]; simp
          obtain ⟨w4, hw4⟩ : ∃ w4, w4 = wr.alloc (.cells #[.pointer none, .slice none 0 0] 58) := ⟨_, rfl⟩
          rw [← hw4] at HR3 hbbs ⊢
          clear hnames hns hty hbel HT HU HS hVt hm hw0 hbb hw4 hcs hus hnl HN2
          obtain ⟨i0, hi, hz0, hz1, hz2⟩ := info_parts Try.info42
          go_loopw [13, 77] (fun v i wr => ∃ k : Nat, k ≤ n ∧ i = .int .i64 k ∧ R3 wc bb cs names k v wr) (fun _ i _ => n - (intOf i).toNat)
          case atStart => exact ⟨0, Nat.zero_le _, rfl, HR3.out⟩
          case round =>
            obtain ⟨k, hk, rfl, hR⟩ := hrel
            clear HR3
            have HR : Hid (R3 wc bb cs names k u13 wr) := hR
            have hbs := hR.below.size
            clear hR
            by_cases hk2 : k < n
            · obtain ⟨b, off, s, ha, hbw, hns, hcell⟩ := HRow.out.at hk2
              subst ha
              have hcell' := (HR.out.below.cell (p := ⟨b, off + k, none⟩) hbw).trans hcell
              have HS : Hid (names[k]? = some s) := hns
              have hs1 := HNS.out k s hns
              have hs2 := typeOf_size HCS.out s
              clear hns hcell
              go_wp2_with (first
                | (at_lookup; refine wpList_lookup_types _ rfl _ _ rfl wc.heap.size cs.length cs rfl HR.out.types s rfl hs1 ?_)
                | (at_builtin; refine wpList_append_own _ rfl _ _ 30 rfl wc.heap.size 42 i0 (.agg (colCells (⟨#[]⟩, ⟨#[]⟩)).toArray) 23 344 Try.underlying30 hi hz0 hz1 hz2 rfl (by decide) _ _ _ rfl (HR.out.cols.alloc _) ⟨wr.heap.size, 0, none⟩ 1 1 [.string s, .string (typeOf cs s), .bool false, .string ⟨#[]⟩, .string ⟨#[]⟩, .slice none 0 0, .slice none 0 0, .string ⟨#[]⟩, .string ⟨#[]⟩, .slice none 0 0, .slice none 0 0, .string ⟨#[]⟩, .string ⟨#[]⟩, .string ⟨#[]⟩, .int .i64 0, .int .i64 0, .int .i64 0, .int .i64 0, .int .i64 0, .bool false, .string ⟨#[]⟩, .string ⟨#[]⟩, .string ⟨#[]⟩] rfl rfl (cells_new _ _ _) (one_cells_col (s, typeOf cs s)) (by unfold maxLen; omega) (by omega) (by simp; omega) ?_; intro v' w1 hown1 hgrow1 _; obtain ⟨q1, q4, q5⟩ := HR.out.mid hgrow1; have q6 := q5.size)
                | (at_lookup; refine wpList_lookup_types _ rfl _ _ rfl wc.heap.size cs.length cs rfl q4 s rfl hs1 ?_)
                | (go_at_call 14; refine (Try.Builder_WriteString_k wc.heap.size bb _ _ _ q1 ?_ q6).mono ?_))
              · have := colsText_len HCS.out HNS.out k (by rw [HNL.out]; omega)
                have hz : (⟨#[0]⟩ : ByteArray).size = 1 := rfl
                rw [Lib.byteCells_length]
                simp only [ByteArray.size_append, hz]
                omega
              · rintro e w2 ⟨rfl, g1, g2, g3⟩
                have HX : Hid (R3 wc bb cs names (k + 1) v' w2) := R3.step HS.out q4 hown1 q5 q1 g1 g2 g3
                clear q1 q4 q5 q6 g1 g2 g3 hown1 hgrow1
                go_wp2
                go_roundw
                case rel => exact ⟨k + 1, by omega, by go_num, HX.out⟩
                case measure => simp [intOf]; omega
            · have hkk : k = names.length := by rw [HNL.out]; omega
              have HK : Hid (k = names.length) := hkk
              clear hkk
              have hu1 := HN.out.u1
              go_wp2_with (go_at_call 15; refine (HR.out.string HK.out).mono ?_; rintro e w5 ⟨rfl, h5⟩; have ho5 := h5.1; have hb5 := h5.2; clear h5; have b5 := (hb5.block _ (by omega)).trans hu1.box; have r5 := (hb5.block _ (by omega)).trans hu1.res; have s5 := hb5.size; have x0 := Lib.cell_of_heap b5 0; have x1 := Lib.cell_of_heap b5 1; have x2 := Lib.cell_of_heap b5 2; have x3 := Lib.cell_of_heap b5 3; have x4 := Lib.cell_of_heap b5 4; have f3 := Lib.frozen_of_heap b5 3; have y0 := Lib.cell_of_heap r5 0; have y1 := Lib.cell_of_heap r5 1; have y2 := Lib.cell_of_heap r5 2; have y3 := Lib.cell_of_heap r5 3; have y4 := Lib.cell_of_heap r5 4; have fr5 := fun j => Lib.frozen_of_heap r5 j)
              have hw1 : Below w.heap.size w w5 := hbd.trans (hb5.mono (by omega))
              have eW : wholeB nm kd tx = W := HW.out.symm
              have eN : namesOf nm kd tx cs us = names := by rw [HNM.out, namesOf, eW]
              refine bodyPost_ret (v := .tuple #[.agg #[.string kd, .string tx, .string ct, .string ⟨(colsText cs names).toArray⟩, .string tb2], u13]) (by simp [results, Try.results11, go_sem, y0, y1, y2, y3, y4]) rfl ?_
              refine ⟨u13, ?_, ?_, ?_, ?_⟩
              · rw [eN, eW, ← HTB.out]
              · exact (((((hw1.setCell (Nat.le_refl _) _).setCell (by simp) _).setCell (by simp) _).setCell (by simp) _).setCell (by simp) _).setCell (by simp) _
              · rw [eN]
                refine ownsRow_base (b := wc.heap.size) ?_ (by omega)
                exact ownsRow_setCell_below (ownsRow_setCell_below (ownsRow_setCell_below (ownsRow_setCell_below (ownsRow_setCell_below (ownsRow_setCell_below ho5 (by show w.heap.size < _; omega) _) (by show w.heap.size + 1 < _; omega) _) (by show w.heap.size + 1 < _; omega) _) (by show w.heap.size + 1 < _; omega) _) (by show w.heap.size + 1 < _; omega) _) (by show w.heap.size + 1 < _; omega) _
              · rw [eN, ← HK.out]
                exact HR.out.nil


end Go.Proofs.Qxb6615940a
