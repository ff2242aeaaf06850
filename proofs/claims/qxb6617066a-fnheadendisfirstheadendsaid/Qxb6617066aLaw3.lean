import Derived.Test.Qxb6617066aSmall
import Derived.Laws.Cover3
namespace Go.Proofs.Qxb6617066a
open Go.RowKit

def TruePost (w : World) (e : Ending) (w' : World) : Prop := e = .returned (.bool true) ∧ Below w.heap.size w w'

set_option maxRecDepth 20000 in
set_option maxHeartbeats 2000000 in
theorem law3_nil (a1 : Int) (w : World) : Calls Try.prog 3 #[.slice none 0 0, .int .i64 a1] w (TruePost w) := by
  by_cases h : a1 = 0
  · subst h
    go_enter Try.func3, Try.ntmps3
    go_wp2_with (first
      | (go_at_call 6; refine (zzBytes6 _ _ _ _ _).mono ?_; rintro e w1 ⟨⟨b, rfl⟩, rfl⟩)
      | (go_at_call 7; refine (zzHeadEnd_nil _).mono ?_; rintro e w1 ⟨rfl, rfl⟩)
      | (go_at_call 8; refine (firstBlank_nil _).mono ?_; rintro e w1 ⟨rfl, rfl⟩))
    all_goals (go_ret; exact ⟨rfl, Below.refl _ _⟩)
  · go_enter Try.func3, Try.ntmps3
    go_wp2_with (first
      | (go_at_call 6; refine (zzBytes6 _ _ _ _ _).mono ?_; rintro e w1 ⟨⟨b, rfl⟩, rfl⟩))
    all_goals first
      | (go_ret; exact ⟨rfl, Below.refl _ _⟩)
      | (exfalso; omega)

set_option maxRecDepth 20000 in
set_option maxHeartbeats 2000000 in
theorem law3_some (x : Addr) (len cap : Nat) (zs : List Int) (a1 : Int) (w : World) (hl : len ≤ cap) (hz : zs.length = cap) (hc : ∀ i, i < zs.length → w.cell? (x.add i) = some (.int .u8 (zs.getD i 0))) (hb : ∀ n ∈ zs, 0 ≤ n ∧ n ≤ 255) :
    Calls Try.prog 3 #[.slice (some x) len cap, .int .i64 a1] w (TruePost w) := by
  by_cases hsm : len ≤ 1048576 ∧ 0 ≤ a1 ∧ a1 ≤ len
  · obtain ⟨h1, h2, h3⟩ := hsm
    obtain ⟨a, rfl⟩ : ∃ a : Nat, a1 = a := ⟨a1.toNat, by omega⟩
    have HX : Hid ((zs.take len).length = len) := by show _ = _; rw [List.length_take]; omega
    have HC : Hid (∀ j u, ((zs.take len).map (Value.int .u8))[j]? = some u → w.cell? (x.add j) = some u) := fun j u hj => by
      rw [List.getElem?_map, List.getElem?_take] at hj
      split at hj
      · rename_i hjl
        rw [hc j (by omega), List.getD_eq_getElem?_getD]
        cases e : zs[j]? with
        | none => rw [e] at hj; cases hj
        | some z => rw [e] at hj; simpa using hj
      · cases hj
    have HBy : Hid (∀ n ∈ zs.take len, 0 ≤ n ∧ n ≤ 255) := fun n hn => hb n (List.mem_of_mem_take hn)
    clear hc hb
    generalize zs.take len = xs at HX HC HBy
    obtain ⟨i0, hi, hz0, hz1, hz2⟩ := info_of Try.info5
    go_enter Try.func3, Try.ntmps3
    go_wp2_with (first
      | (go_at_call 6; refine (zzBytes6 _ _ _ _ _).mono ?_; rintro e w0 ⟨⟨b, rfl⟩, hw⟩; rw [hw]; clear hw)
      | (at_make; refine wpList_make_full _ rfl _ _ 22 rfl w.heap.size 5 i0 (.int .u8 0) 1 Try.underlying22 hi hz0 hz1 .i64 .i64 _ _ len rfl rfl rfl rfl (by rw [hz2]; omega) (by unfold maxLen; omega) (Nat.le_refl _) ?_; intro w1 hown hgrow; obtain ⟨cur, hg1, hcz⟩ := made_block hown)
      | (refine wpList_copy_splice rfl _ _ 22 22 rfl 5 Try.underlying22 Try.size5 _ _ _ _ _ _ rfl rfl w.heap.size 0 cur 5 hg1 (xs.map (Value.int .u8)) ?_ ?_ ?_ ?_ w.heap.size w ((Below.refl _ _).grown hgrow (Nat.le_refl _) (fun j hj => by cases hj)) (Nat.le_refl _) ?_))
    · go_ret
      exact ⟨rfl, Below.refl _ _⟩
    · rw [List.length_map, HX.out]; simp
    · intro h0 j z hj
      have hb1 := (Below.refl w.heap.size w).grown hgrow (Nat.le_refl _) (fun j hj => by cases hj)
      have hcell := HC.out j (.int .u8 z) (by rw [List.getElem?_map, hj]; rfl)
      rw [hb1.cell (World.block_lt_of_cell? w _ hcell)]
      exact hcell
    · have := HX.out
      simp
      omega
    · exact one_cells xs
    · intro w2 HG2 hB2
      have HR : Hid (BRow w2 w.heap.size xs) := by
        have h := HG2.out
        have hl := HX.out
        rw [splice_all (by rw [List.length_map]; omega)] at h
        exact BRow.of_block h HBy.out
      have HB : Hid (Below w.heap.size w w2) := hB2
      have ha : a ≤ len := by omega
      clear HG2 hg1 hcz hown hgrow hB2 HC HBy
      go_wp2_with (first
        | (go_at_call 7; refine (zzHeadEnd w.heap.size len len a xs _ HX.out (Nat.le_refl _) h1 ha (by exact HR.out)).mono ?_; rintro e w3 ⟨hw, r, rfl, hl3⟩; rw [hw]; clear hw)
        | (go_at_call 8; refine (firstBlank w.heap.size len len a xs _ HX.out (Nat.le_refl _) h1 ha (by exact HR.out)).mono ?_; rintro e w4 ⟨hw, r4, rfl, hl4⟩; rw [hw]; clear hw; obtain rfl := hl3.unique hl4; clear hl4))
      go_ret
      exact ⟨by simp, HB.out⟩
  · go_enter Try.func3, Try.ntmps3
    go_wp2_with (first
      | (go_at_call 6; refine (zzBytes6 _ _ _ _ _).mono ?_; rintro e w1 ⟨⟨b, rfl⟩, rfl⟩))
    all_goals first
      | (go_ret; exact ⟨rfl, Below.refl _ _⟩)
      | (exfalso; omega)
end Go.Proofs.Qxb6617066a
