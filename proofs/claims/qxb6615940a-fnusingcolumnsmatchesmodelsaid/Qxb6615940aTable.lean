import Derived.Test.Qxb6615940aRows23
namespace Go.Proofs.Qxb6615940a
open Go.RowKit

/-- The columns after k rounds. -/
def upto (cs : List (ByteArray × ByteArray)) (k i : Nat) : ByteArray × ByteArray := if i < k then (cs[i]?).getD (⟨#[]⟩, ⟨#[]⟩) else (⟨#[]⟩, ⟨#[]⟩)
theorem upto_zero (cs : List (ByteArray × ByteArray)) : upto cs 0 = fun _ => (⟨#[]⟩, ⟨#[]⟩) := by funext i; simp [upto]
theorem upto_succ (cs : List (ByteArray × ByteArray)) {k : Nat} {c : ByteArray × ByteArray} (h : cs[k]? = some c) : upto cs (k + 1) = fun i => if i = k then c else upto cs k i := by
  funext i
  by_cases e : i = k
  · subst e; simp [upto, h]
  · simp only [upto, if_neg e]
    by_cases e2 : i < k
    · rw [if_pos e2, if_pos (by omega)]
    · rw [if_neg e2, if_neg (by omega)]
theorem upto_full (cs : List (ByteArray × ByteArray)) {i : Nat} {c : ByteArray × ByteArray} (h : cs[i]? = some c) : upto cs cs.length i = c := by
  have := (List.getElem?_eq_some_iff.1 h).1
  rw [upto, if_pos this, h]
  rfl

/-- What the loop of zzTable holds to. -/
structure TRel (w : World) (len1 : Nat) (cs : List (ByteArray × ByteArray)) (k : Nat) (wr : World) : Prop where
  row : ∃ xs, wr.ownsRow w.heap.size 42 23 (.slice (some ⟨w.heap.size, 0, none⟩) len1 len1) len1 xs ∧ Content len1 (upto cs k) xs
  below : Below w.heap.size w wr

theorem TRel.step {w wr : World} {len1 : Nat} {cs : List (ByteArray × ByteArray)} {k : Nat} (h : TRel w len1 cs k wr) (hk : k < len1) {s t : ByteArray} (hc : cs[k]? = some (s, t)) :
    TRel w len1 cs (k + 1) ((wr.setCell ⟨w.heap.size, k * 23, none⟩ (.string s)).setCell ⟨w.heap.size, k * 23 + 1, none⟩ (.string t)) := by
  obtain ⟨⟨xs, ho, hx⟩, hb⟩ := h
  refine ⟨⟨_, ((ho.stored _ _).1.stored _ _).1, ?_⟩, (hb.setCell (Nat.le_refl _) _).setCell (Nat.le_refl _) _⟩
  rw [upto_succ cs hc]
  exact hx.put ho.1 hk s t

theorem TRel.there {w wr : World} {len1 : Nat} {cs : List (ByteArray × ByteArray)} {k : Nat} (h : TRel w len1 cs k wr) (hk : k < len1) :
    (∃ u, wr.cell? ⟨w.heap.size, k * 23, none⟩ = some u) ∧ (∃ u, wr.cell? ⟨w.heap.size, k * 23 + 1, none⟩ = some u) ∧ wr.frozen? ⟨w.heap.size, k * 23, none⟩ = false ∧ wr.frozen? ⟨w.heap.size, k * 23 + 1, none⟩ = false := by
  obtain ⟨⟨xs, ho, hx⟩, hb⟩ := h
  have hl : k * 23 + 23 ≤ len1 * 23 := by omega
  have hxl := ho.1
  refine ⟨⟨_, (ho.cellAt (k * 23) (by omega)).trans (List.getElem?_eq_getElem (by omega))⟩, ⟨_, (ho.cellAt (k * 23 + 1) (by omega)).trans (List.getElem?_eq_getElem (by omega))⟩, ho.frozenAt _, ho.frozenAt _⟩

/-- What zzTable hands back: a pointer to a table of that name whose columns are cs. -/
structure Table (w : World) (p : Nat) (nm : ByteArray) (cs : List (ByteArray × ByteArray)) : Prop where
  c0 : w.cell? ⟨p, 0, none⟩ = some (.string nm)
  c1 : ∃ a cap, w.cell? ⟨p, 1, none⟩ = some (.slice a cs.length cap) ∧ TabRow w a cs.length cs
  lt : p < w.heap.size

set_option maxRecDepth 20000 in
set_option maxHeartbeats 1000000 in
theorem zzTable (nm : ByteArray) (a1 : Option Addr) (len1 cap1 : Nat) (cs : List (ByteArray × ByteArray)) (w : World) (hl : len1 ≤ 1048576) (h1 : ColRow w a1 len1 cs) :
    Calls Try.prog 6 #[.string nm, .slice a1 len1 cap1] w fun e w' => ∃ p, e = .returned (.pointer (some ⟨p, 0, none⟩)) ∧ Below w.heap.size w w' ∧ Table w' p nm cs := by
  have e22 := fun (w : World) (a : Option Addr) (n c : Nat) => run_neq_slice_nil_any (P := Try.prog) w 22 26 a n c 0 0 Try.underlying22
  obtain ⟨i0, hi, hz0, hz1, hz2⟩ := info_parts Try.info42
  cases a1 with
  | none =>
    have hcs : cs = [] := by
      obtain ⟨h, h'⟩ := h1
      rw [← List.length_eq_zero_iff, h]
      rcases Nat.eq_zero_or_pos len1 with e | e
      · exact e
      · obtain ⟨b, off, hn, _⟩ := h' e
        cases hn
    subst hcs
    clear h1 hi hz0 hz1 hz2
    go_enter Try.func6, Try.ntmps6
    go_wp2
    go_ret
    refine ⟨w.heap.size, rfl, (Below.refl _ _).alloc (Nat.le_refl _) _, ⟨by simp, ⟨none, 0, by simp, rfl, fun h => absurd h (Nat.lt_irrefl _)⟩, by simp⟩⟩
  | some x =>
    go_enter Try.func6, Try.ntmps6
    go_wp2_with (first
      | (at_make; refine wpList_make_full _ rfl _ _ 30 rfl w.heap.size 42 i0 (.agg (colCells (⟨#[]⟩, ⟨#[]⟩)).toArray) 23 Try.underlying30 hi hz0 hz1 .i64 .i64 _ _ len1 rfl rfl rfl rfl (by rw [hz2]; omega) (by unfold maxLen; omega) (Nat.le_refl _) ?_; intro w1 hown hgrow))
    have hrel0 : TRel w len1 cs 0 w1 := ⟨⟨_, hown, by rw [upto_zero]; exact Content.made len1⟩, (Below.refl _ _).grown hgrow (Nat.le_refl _) (fun j hj => by cases hj)⟩
    clear hown hgrow hi hz0 hz1 hz2
    have hlen := h1.1
    have HL : Hid (cs.length = len1) := hlen
    clear hlen
    go_loopw [6] (fun i wr => ∃ k : Nat, k ≤ len1 ∧ i = .int .i64 k ∧ TRel w len1 cs k wr) (fun i _ => len1 - (intOf i).toNat)
    case atStart => exact ⟨0, Nat.zero_le _, rfl, hrel0⟩
    case round =>
      obtain ⟨k, hk, rfl, hT⟩ := hrel
      clear hrel0
      by_cases hlt : k < len1
      · obtain ⟨b, off, s, t, hx, hbw, hck, c1, c2⟩ := h1.at hlt
        simp only [Option.some.injEq] at hx
        subst hx
        have d1 := (hT.below.cell (p := ⟨b, off + k * 2, none⟩) hbw).trans c1
        have d2 := (hT.below.cell (p := ⟨b, off + k * 2 + 1, none⟩) hbw).trans c2
        obtain ⟨⟨u1, g1⟩, ⟨u2, g2⟩, g3, g4⟩ := hT.there hlt
        have hT' := hT.step hlt hck
        clear hck c1 c2 h1 hT
        have c26 := Try.cells26
        have c42 : Try.prog.cellsOf 42 = 23 := by kernel_rfl
        have hne : b ≠ w.heap.size := by omega
        go_wp2
        go_roundw
        case rel => exact ⟨k + 1, by omega, by go_num, hT'⟩
        case measure => simp [intOf]; omega
      · obtain ⟨⟨xs, ho, hx⟩, hb⟩ := hT
        have hk' : k = len1 := by omega
        have HK : Hid (k = len1) := hk'
        clear hk'
        go_wp2
        go_ret
        have hbs := hb.size
        have hlt := (ho.lt _ rfl).2
        refine ⟨wr.heap.size, rfl, hb.alloc hbs _, ⟨by simp, ⟨some ⟨w.heap.size, 0, none⟩, len1, ?_, ?_⟩, by simp⟩⟩
        · rw [HL.out]; simp
        · rw [HL.out]
          have ht := TabRow.of_content (cs := cs) rfl ho hx HL.out (fun i c hi => by rw [HK.out, ← HL.out]; exact upto_full cs hi)
          exact ht.below ((Below.refl _ _).alloc (Nat.le_refl _) _) (Nat.le_refl _)

end Go.Proofs.Qxb6615940a
