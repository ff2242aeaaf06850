import Derived.Test.Qxb6615940aTail6
namespace Go.Proofs.Qxb6615940a
open Go.RowKit

set_option maxRecDepth 100000 in
set_option maxHeartbeats 4000000 in
theorem law (nm kd tx ct cl tb : ByteArray) (a1 a7 : Option Addr) (len1 cap1 len7 cap7 : Nat) (cs : List (ByteArray × ByteArray)) (us : List ByteArray) (w : World) (m : Int)
    (hm : w.cell? ⟨0, 0, none⟩ = some (.int .i64 m)) (hw0 : 0 < w.heap.size) (h1 : ColRow w a1 len1 cs) (h7 : StrRow w a7 len7 us) :
    Calls Try.prog 3 #[.string nm, .slice a1 len1 cap1, .string kd, .string tx, .string ct, .string cl, .string tb, .slice a7 len7 cap7] w fun e w' => e = .returned (.bool true) ∧ Below w.heap.size w w' := by
  have H1 : Hid (ColRow w a1 len1 cs) := h1
  have H7 : Hid (StrRow w a7 len7 us) := h7
  have HM : Hid (w.cell? ⟨0, 0, none⟩ = some (.int .i64 m)) := hm
  clear h1 h7 hm
  have e23 := fun (w : World) (a : Option Addr) (n c : Nat) => run_neq_slice_nil_any (P := Try.prog) w 23 9 a n c 0 0 Try.underlying23
  go_enter Try.func3, Try.ntmps3
  go_wp2_with fail
  refine (zzBytes nm kd tx ct cl tb a1 a7 len1 cap1 len7 cap7 cs us _ H1.out H7.out).mono ?_
  rintro e w' ⟨rfl, hg⟩
  rcases hg with rfl | ⟨rfl, hS⟩
  · go_wp2
    go_ret
    exact ⟨rfl, Below.refl _ _⟩
  · have HS : Hid (Small nm kd tx ct cl tb len1 len7 cs us) := hS
    obtain ⟨s1, s2, s3, s4, s5, s6, s7, s8, s9, s10⟩ := hS
    clear s9 s10
    go_upto_if 75 with fail
    go_cut [7, 17] (fun u _ wc => ∃ a c, u = .slice a len7 c ∧ Below w.heap.size w wc ∧ StrRow wc a len7 us)
    case first =>
      as_aux_lemma =>
      cases a7 with
      | none =>
        go_wp2
        go_meet
        exact ⟨none, cap7, rfl, Below.refl _ _, H7.out⟩
      | some x =>
        obtain ⟨i0, hi, hz0, hz1, hz2⟩ := info_parts Try.info9
        go_wp2_with (first
          | (at_make; refine wpList_make_full _ rfl _ _ 23 rfl w.heap.size 9 i0 (.string ⟨#[]⟩) 1 Try.underlying23 hi hz0 hz1 .i64 .i64 _ _ len7 rfl rfl rfl rfl (by rw [hz2]; omega) (by unfold maxLen; omega) (Nat.le_refl _) ?_; intro w1 hown hgrow; obtain ⟨cur, hg1, hcz⟩ := made_block hown)
          | (refine wpList_copy_splice rfl _ _ 23 23 rfl 9 Try.underlying23 Try.size9 _ _ _ _ _ _ rfl rfl w.heap.size 0 cur 9 hg1 (us.map Value.string) ?_ ?_ ?_ ?_ w.heap.size w ((Below.refl _ _).grown hgrow (Nat.le_refl _) (fun j hj => by cases hj)) (Nat.le_refl _) ?_))
        · rw [List.length_map, H7.out.1]; simp
        · intro h0 j s hj
          have hb1 := (Below.refl w.heap.size w).grown hgrow (Nat.le_refl _) (fun j hj => by cases hj)
          obtain ⟨b, off, hx, hbw, hc⟩ := H7.out.2 (by have := H7.out.1; omega)
          simp only [Option.some.injEq] at hx
          subst hx
          rw [Addr.add_mid, hb1.cell (p := ⟨b, off + j, none⟩) hbw]
          exact hc j s hj
        · have := H7.out.1
          simp
          omega
        · exact one_cells_strings us
        · intro w2 HG2 hB2
          have HR : Hid (StrRow w2 (some ⟨w.heap.size, 0, none⟩) len7 us) := by
            have h := HG2.out
            have hl := H7.out.1
            rw [splice_all (by rw [List.length_map]; omega)] at h
            rw [← hl]
            exact StrRow.of_block h
          clear HG2 hg1 hcz hown hgrow
          go_wp2
          go_meet
          exact ⟨_, _, rfl, hB2, HR.out⟩
    case rest =>
      obtain ⟨a, c, rfl, hB, hrow⟩ := hcut
      have HRow : Hid (StrRow wc a len7 us) := hrow
      clear hrow
      by_cases hq : (1048576 : Int) < (nm.size : Int) + (kd.size : Int) + (tx.size : Int) + (ct.size : Int) + (cl.size : Int) + (tb.size : Int)
      · go_wp2
        go_ret
        exact ⟨rfl, hB⟩
      · go_upto_if 101 with fail
        go_cut [] (fun wd => wd = wc)
        case first =>
          as_aux_lemma =>
          go_wp2
          go_meet
          rfl
        case rest =>
        obtain rfl := hcut
        refine (‹∀ (a : Act) (w : World), Code.wp Try.prog _ _ a w → _› _ _ ?_)
        have eq : (nm.size : Int) + (kd.size : Int) + (tx.size : Int) + (ct.size : Int) + (cl.size : Int) + (tb.size : Int) = ((nm.size + kd.size + tx.size + ct.size + cl.size + tb.size : Nat) : Int) := by omega
        rw [eq]
        exact tail6 nm kd tx ct cl tb a1 a len1 cap1 len7 c cs us m (nm.size + kd.size + tx.size + ct.size + cl.size + tb.size) w wc _ _ _ _ _ _ _ _ _ _ _ _ _ _ _ _ _ _ _ _ _ _ _ _ _ _ _ _ _ _ _ _ _ _ _ _ _ _ _ _ _ _ _ _ _ _ _ _ _ _ _ _ _ _ _ _ _ _ _ _ _ _ _ _ _ _ _ _ _ _ _ _ _ _ _ _ _ _ _ _ _ _ _ _ _ _ _ _ _ _ _ _ _ _ _ _ _ _ _ _ _ _ _ _ _ _ _ _ _ _ _ _ _ _ _ _ _ _ _ _ _ _ _ _ _ _ _ _ _ _ _ _ _ _ _ _ _ _ _ _ _ _ _ _ _ _ _ _ _ _ _ _ _ _ _ _ _ _ _ _ _ _ _ _ _ _ _ _ _ _ _ _ _ _ _ _ _ _ _ _ _ _ _ _ _ _ _ _ _ _ _ _ _ _ _ _ _ _ _ _ _ _ _ _ _ _ _ _ _ _ _ _ _ _ _ _ _ _ _ _ _ _ _ _ _ _ _ _ _ _ _ _ _ _ _ _ _ _ _ _ _ _ _ _ _ _ _ _ _ _ _ _ _ _ _ _ _ _ _ _ _ _ _ _ _ _ _ _ _ _ _ _ _ _ _ _ _ _ _ _ _ _ _ _ _ _ _ _ _ _ _ _ hB ((hB.cell (p := ⟨0, 0, none⟩) hw0).trans HM.out) (Nat.lt_of_lt_of_le hw0 hB.size) (H1.out.below hB (Nat.le_refl _)) HRow.out HS.out (by omega)

end Go.Proofs.Qxb6615940a
