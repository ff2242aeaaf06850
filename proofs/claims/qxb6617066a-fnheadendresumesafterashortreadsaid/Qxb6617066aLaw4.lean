import Derived.Test.Qxb6617066aHolds
import Derived.Laws.Cover3
namespace Go.Proofs.Qxb6617066a
open Go.RowKit

theorem End.take {xs : List Int} {a e k : Nat} : End (xs.take k) a e ↔ End xs a e ∧ e ≤ k := by
  have key : ∀ (i : Nat) (z : Int), (xs.take k)[i]? = some z ↔ xs[i]? = some z ∧ i < k := fun i z => by
    rw [List.getElem?_take]
    split
    · rename_i h; simp [h]
    · rename_i h; simp [h]
  constructor
  · rintro ⟨p, hp, h0, h1⟩
    rw [key] at h0
    rcases h1 with ⟨rfl, h1⟩ | ⟨rfl, h1, h2⟩
    · rw [key] at h1
      exact ⟨⟨p, hp, h0.1, .inl ⟨rfl, h1.1⟩⟩, by omega⟩
    · rw [key] at h1 h2
      exact ⟨⟨p, hp, h0.1, .inr ⟨rfl, h1.1, h2.1⟩⟩, by omega⟩
  · rintro ⟨⟨p, hp, h0, h1⟩, hk⟩
    rcases h1 with ⟨rfl, h1⟩ | ⟨rfl, h1, h2⟩
    · exact ⟨p, hp, (key _ _).2 ⟨h0, by omega⟩, .inl ⟨rfl, (key _ _).2 ⟨h1, by omega⟩⟩⟩
    · exact ⟨p, hp, (key _ _).2 ⟨h0, by omega⟩, .inr ⟨rfl, (key _ _).2 ⟨h1, by omega⟩, (key _ _).2 ⟨h2, by omega⟩⟩⟩

theorem Least.part {xs : List Int} {a k r p : Nat} (h : Least xs a r) (hp : Least (xs.take k) a p) (h0 : p ≠ 0) : p = r := by
  rcases hp with ⟨rfl, _⟩ | ⟨he, hm⟩
  · exact absurd rfl h0
  · obtain ⟨hx, hk⟩ := End.take.1 he
    rcases h with ⟨rfl, h⟩ | ⟨h, hl⟩
    · exact absurd hx (h _)
    · have h1 := hl p hx
      exact Nat.le_antisymm (hm r (End.take.2 ⟨h, by omega⟩)) h1

theorem Least.resume {xs : List Int} {a k r b : Nat} (h : Least xs a r) (hp : Least (xs.take k) a 0) (hb : a ≤ b) (hb2 : b = a ∨ b + 2 = k) : Least xs b r := by
  have hno : ∀ e, End xs a e → ¬ e ≤ k := fun e he hk => by
    rcases hp with ⟨_, hp⟩ | ⟨hp, _⟩
    · exact hp e (End.take.2 ⟨he, hk⟩)
    · have := hp.two; omega
  have up : ∀ e, End xs a e → End xs b e := fun e he => by
    obtain ⟨p, hpa, hc⟩ := id he
    refine ⟨p, ?_, hc⟩
    have h1 := hno e he
    rcases hc.2 with ⟨rfl, _⟩ | ⟨rfl, _⟩ <;> omega
  have down : ∀ e, End xs b e → End xs a e := fun e ⟨p, hpb, hc⟩ => ⟨p, by omega, hc⟩
  rcases h with ⟨rfl, h⟩ | ⟨h, hl⟩
  · exact .inl ⟨rfl, fun e he => h e (down e he)⟩
  · exact .inr ⟨up r h, fun e he => hl e (down e he)⟩

theorem BRow.take {w : World} {g : Nat} {xs : List Int} (h : BRow w g xs) (k : Nat) : BRow w g (xs.take k) := by
  refine ⟨fun i hi => ?_, fun x hx => h.byte x (List.mem_of_mem_take hx)⟩
  rw [List.length_take] at hi
  rw [h.cell i (by omega), List.getD_eq_getElem?_getD, List.getD_eq_getElem?_getD, List.getElem?_take, if_pos (by omega)]

theorem ne_nat (r : Nat) : ((r : Int) != 0) = !decide (r = 0) := by cases r <;> simp <;> omega

def TruePost4 (w : World) (e : Ending) (w' : World) : Prop := e = .returned (.bool true) ∧ Below w.heap.size w w'

theorem holds_nil (w : World) : Calls Try.prog 10 #[.slice none 0 0, .int .i64 0] w fun e w' => e = .returned (.bool false) ∧ w' = w := by
  go_enter Try.func10, Try.ntmps10
  go_wp2
  go_loop [5] (fun ix => ix = .int .i64 0) (fun _ => 0)
  case atStart => rfl
  case round =>
    obtain rfl := hrel
    go_wp2
    go_ret
    exact ⟨rfl, rfl⟩

set_option maxRecDepth 20000 in
set_option maxHeartbeats 2000000 in
theorem law4_nil (a1 a2 : Int) (w : World) : Calls Try.prog 4 #[.slice none 0 0, .int .i64 a1, .int .i64 a2] w (TruePost4 w) := by
  by_cases h : a1 = 0 ∧ a2 = 0
  · obtain ⟨rfl, rfl⟩ := h
    go_enter Try.func4, Try.ntmps4
    go_wp2_with (first
      | (go_at_call 9; refine (zzBytes9 _ _ _ _ _ _).mono ?_; rintro e w1 ⟨⟨b, rfl⟩, rfl⟩)
      | (go_at_call 7; refine (zzHeadEnd_nil _).mono ?_; rintro e w1 ⟨rfl, rfl⟩)
      | (go_at_call 10; refine (holds_nil _).mono ?_; rintro e w1 ⟨rfl, rfl⟩))
    all_goals (go_ret; exact ⟨rfl, Below.refl _ _⟩)
  · go_enter Try.func4, Try.ntmps4
    go_wp2_with (first
      | (go_at_call 9; refine (zzBytes9 _ _ _ _ _ _).mono ?_; rintro e w1 ⟨⟨b, rfl⟩, rfl⟩))
    all_goals first
      | (go_ret; exact ⟨rfl, Below.refl _ _⟩)
      | (exfalso; omega)

set_option maxRecDepth 20000 in
set_option maxHeartbeats 2000000 in
theorem law4_some (x : Addr) (len cap : Nat) (zs : List Int) (a1 a2 : Int) (w : World) (hl : len ≤ cap) (hz : zs.length = cap) (hc : ∀ i, i < zs.length → w.cell? (x.add i) = some (.int .u8 (zs.getD i 0))) (hb : ∀ n ∈ zs, 0 ≤ n ∧ n ≤ 255) :
    Calls Try.prog 4 #[.slice (some x) len cap, .int .i64 a1, .int .i64 a2] w (TruePost4 w) := by
  by_cases hsm : len ≤ 1048576 ∧ 0 ≤ a1 ∧ a1 ≤ a2 ∧ a2 ≤ len
  · obtain ⟨h1, h2, h3, h4⟩ := hsm
    obtain ⟨a, rfl⟩ : ∃ a : Nat, a1 = a := ⟨a1.toNat, by omega⟩
    obtain ⟨k, rfl⟩ : ∃ k : Nat, a2 = k := ⟨a2.toNat, by omega⟩
    have HX : Hid ((zs.take len).length = len) := by show _ = _; rw [List.length_take]; omega
    have HC : Hid (∀ j u, ((zs.take len).map (Value.int .u8))[j]? = some u → w.cell? (x.add j) = some u) := fun j u hj => by
      rw [List.getElem?_map, List.getElem?_take] at hj
      split at hj
      · rename_i hjl
        rw [hc j (by omega), List.getD_eq_getElem?_getD]
        cases e : zs[j]? with
        | none => rw [e] at hj; cases hj
        | some z => rw [e] at hj; simpa using hj
      · cases hj
    have HBy : Hid (∀ n ∈ zs.take len, 0 ≤ n ∧ n ≤ 255) := fun n hn => hb n (List.mem_of_mem_take hn)
    clear hc hb
    generalize zs.take len = xs at HX HC HBy
    obtain ⟨i0, hi, hz0, hz1, hz2⟩ := info_of Try.info5
    go_enter Try.func4, Try.ntmps4
    go_wp2_with (first
      | (go_at_call 9; refine (zzBytes9 _ _ _ _ _ _).mono ?_; rintro e w0 ⟨⟨b, rfl⟩, hw⟩; rw [hw]; clear hw)
      | (at_make; refine wpList_make_full _ rfl _ _ 22 rfl w.heap.size 5 i0 (.int .u8 0) 1 Try.underlying22 hi hz0 hz1 .i64 .i64 _ _ len rfl rfl rfl rfl (by rw [hz2]; omega) (by unfold maxLen; omega) (Nat.le_refl _) ?_; intro w1 hown hgrow; obtain ⟨cur, hg1, hcz⟩ := made_block hown)
      | (refine wpList_copy_splice rfl _ _ 22 22 rfl 5 Try.underlying22 Try.size5 _ _ _ _ _ _ rfl rfl w.heap.size 0 cur 5 hg1 (xs.map (Value.int .u8)) ?_ ?_ ?_ ?_ w.heap.size w ((Below.refl _ _).grown hgrow (Nat.le_refl _) (fun j hj => by cases hj)) (Nat.le_refl _) ?_))
    · go_ret
      exact ⟨rfl, Below.refl _ _⟩
    · rw [List.length_map, HX.out]; simp
    · intro h0 j z hj
      have hb1 := (Below.refl w.heap.size w).grown hgrow (Nat.le_refl _) (fun j hj => by cases hj)
      have hcell := HC.out j (.int .u8 z) (by rw [List.getElem?_map, hj]; rfl)
      rw [hb1.cell (World.block_lt_of_cell? w _ hcell)]
      exact hcell
    · have := HX.out
      simp
      omega
    · exact one_cells xs
    · intro w2 HG2 hB2
      have HR : Hid (BRow w2 w.heap.size xs) := by
        have h := HG2.out
        have hl := HX.out
        rw [splice_all (by rw [List.length_map]; omega)] at h
        exact BRow.of_block h HBy.out
      have HB : Hid (Below w.heap.size w w2) := hB2
      have ha : a ≤ len := by omega
      have hk : k ≤ len := by omega
      have hak : a ≤ k := by omega
      clear HG2 hg1 hcz hown hgrow hB2 HC HBy
      go_wp2_with (first | (go_at_call 7; fail))
      refine (zzHeadEnd w.heap.size len len a xs _ HX.out (Nat.le_refl _) h1 ha (by exact HR.out)).mono ?_
      rintro e w3 ⟨hw, r, rfl, hl3⟩
      rw [hw]
      clear hw
      go_wp2_with (first | (go_at_call 7; fail))
      refine (zzHeadEnd w.heap.size k len a (xs.take k) _ (by rw [List.length_take, HX.out]; omega) hk h1 hak (by exact HR.out.take k)).mono ?_
      rintro e w3 ⟨hw, p, rfl, hp3⟩
      rw [hw]
      clear hw
      have fin : ∀ (b : Bool), ((b = true ∧ ∃ f, End xs a f) ∨ (b = false ∧ ∀ f, ¬ End xs a f)) → (!(decide (r = 0))) = b := fun b hb => by
        rcases hb with ⟨rfl, f, hf⟩ | ⟨rfl, hn⟩
        · rcases hl3 with ⟨rfl, h⟩ | ⟨h, _⟩
          · exact absurd hf (h f)
          · have := h.two
            simp; omega
        · rcases hl3 with ⟨rfl, h⟩ | ⟨h, _⟩
          · rfl
          · exact absurd h (hn r)
      have HF : Hid (∀ (b : Bool), ((b = true ∧ ∃ f, End xs a f) ∨ (b = false ∧ ∀ f, ¬ End xs a f)) → (!(decide (r = 0))) = b) := fin
      clear fin
      by_cases hp0 : p = 0
      · subst hp0
        by_cases hka : k < a + 2
        · have hr3 : Least xs a r := hl3
          have hka' : (k : Int) - 2 < (a : Int) := by omega
          go_wp2_with (first
            | (go_at_call 7; refine (zzHeadEnd w.heap.size len len a xs _ HX.out (Nat.le_refl _) h1 ha (by exact HR.out)).mono ?_; rintro e w5 ⟨hw, r5, rfl, hl5⟩; rw [hw]; clear hw; obtain rfl := hl5.unique hr3; clear hl5)
            | (go_at_call 10; refine (holds w.heap.size len len a xs _ HX.out (Nat.le_refl _) h1 ha (by exact HR.out)).mono ?_; rintro e w5 ⟨hw, b5, rfl, hb5⟩; rw [hw]; clear hw))
          go_ret
          have hh := HF.out b5 hb5
          exact ⟨by rw [← hh]; simp; first | exact ne_nat _ | assumption, HB.out⟩
        · obtain ⟨q, rfl⟩ : ∃ q, k = q + 2 := ⟨k - 2, by omega⟩
          have hr3 : Least xs q r := hl3.resume hp3 (by omega) (.inr rfl)
          have hq : q ≤ len := by omega
          have hka' : ¬ ((q + 2 : Nat) : Int) - 2 < (a : Int) := by omega
          have hq2 : ((q + 2 : Nat) : Int) - 2 = (q : Int) := by omega
          go_wp2_with (first
            | (go_at_call 7; refine (zzHeadEnd w.heap.size len len q xs _ HX.out (Nat.le_refl _) h1 hq (by exact HR.out)).mono ?_; rintro e w5 ⟨hw, r5, rfl, hl5⟩; rw [hw]; clear hw; obtain rfl := hl5.unique hr3; clear hl5)
            | (go_at_call 10; refine (holds w.heap.size len len a xs _ HX.out (Nat.le_refl _) h1 ha (by exact HR.out)).mono ?_; rintro e w5 ⟨hw, b5, rfl, hb5⟩; rw [hw]; clear hw))
          go_ret
          have hh := HF.out b5 hb5
          exact ⟨by rw [← hh]; simp; first | exact ne_nat _ | assumption, HB.out⟩
      · obtain rfl := hl3.part hp3 hp0
        go_wp2_with (first
            | (go_at_call 10; refine (holds w.heap.size len len a xs _ HX.out (Nat.le_refl _) h1 ha (by exact HR.out)).mono ?_; rintro e w5 ⟨hw, b5, rfl, hb5⟩; rw [hw]; clear hw))
        go_ret
        have hh := HF.out b5 hb5
        exact ⟨by rw [← hh]; simp; first | exact ne_nat _ | assumption, HB.out⟩
  · go_enter Try.func4, Try.ntmps4
    go_wp2_with (first
      | (go_at_call 9; refine (zzBytes9 _ _ _ _ _ _).mono ?_; rintro e w1 ⟨⟨b, rfl⟩, rfl⟩))
    all_goals first
      | (go_ret; exact ⟨rfl, Below.refl _ _⟩)
      | (exfalso; omega)
end Go.Proofs.Qxb6617066a
