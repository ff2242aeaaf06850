import Derived.Test.Qxb6616097aFmtTemplate
namespace Go.Proofs.Qxb6616097aFmt
open Go.RowKit Go.Extern.Stop Go.Stop Go.Extern

theorem newParser (s : ByteArray) (w : World) : Calls Tryf.prog 10 #[.string s] w fun e w' => e = .returned (.pointer (some ⟨w.heap.size + 1, 0, none⟩)) ∧
    w' = (w.alloc (.cells #[.string s, .slice none 0 0, .string ⟨#[]⟩, .slice none 0 0] 64)).alloc (.cells #[.string s, .int .i64 0, .pointer (some ⟨w.heap.size, 0, none⟩)] 66) := by
  go_enter Tryf.func10, Tryf.ntmps10
  go_wp2
  go_ret
  exact ⟨rfl, rfl⟩

theorem new_two_l (w : World) (o o' : Obj) : ((w.alloc o).alloc o').heap[w.heap.size + 1]? = some o' := by
  have := heap_alloc_new (w.alloc o) o'
  simpa using this

theorem PS.start {F : Interp} {w : World} (s : ByteArray) (hF : F.answers w.tape) (hs : s.size ≤ 4096) :
    PS F w (w.heap.size + 1) w.heap.size s ⟨#[]⟩ 0 0 ((w.alloc (.cells #[.string s, .slice none 0 0, .string ⟨#[]⟩, .slice none 0 0] 64)).alloc (.cells #[.string s, .int .i64 0, .pointer (some ⟨w.heap.size, 0, none⟩)] 66)) := by
  have hb : Below w.heap.size w ((w.alloc (.cells #[.string s, .slice none 0 0, .string ⟨#[]⟩, .slice none 0 0] 64)).alloc (.cells #[.string s, .int .i64 0, .pointer (some ⟨w.heap.size, 0, none⟩)] 66)) :=
    ((Below.refl _ w).alloc (Nat.le_refl _) _).alloc (by simp) _
  refine ⟨?_, ⟨.slice none 0 0, .slice none 0 0, 0, 0, [], [], ⟨?_, ⟨rfl, .inl ⟨rfl, rfl⟩⟩, ⟨rfl, .inl ⟨rfl, rfl⟩⟩, fun k hk => absurd hk (Nat.not_lt_zero _), fun k hk => absurd hk (Nat.not_lt_zero _)⟩, Nat.le_refl _, Nat.le_refl _⟩, by omega, Nat.le_refl _, Nat.zero_le _, hs, hb, hF⟩
  · exact new_two_l w _ _
  · show ((w.heap.push _).push _)[w.heap.size]? = _
    simp [Array.getElem?_push]

section
variable {F : Interp} {W0 : World} {pb tb : Nat} {s verb : ByteArray} {i d : Nat} {w w' : World}

theorem zzTemplate (h : PS F W0 pb tb s ⟨#[]⟩ 0 0 w) (hv : ∀ (i d : Nat) (w : World), PS F W0 pb tb s ⟨#[]⟩ i (d + 1) w → Calls Tryf.prog 66 #[.pointer (some ⟨pb, 0, none⟩)] w (SegPost F W0 pb tb s ⟨#[]⟩ i d)) :
    Calls Tryf.prog 11 #[.pointer (some ⟨pb, 0, none⟩)] w (TmplPost F W0 pb tb s) := by
  have HT : Hid (Calls Tryf.prog 33 #[.pointer (some ⟨pb, 0, none⟩)] w (TmplPost F W0 pb tb s)) := template h hv
  clear h hv
  go_enter Tryf.func11, Tryf.ntmps11
  go_wp2_with (first | (go_at_call 33; fail))
  refine HT.out.mono ?_
  rintro e w1 ⟨vb, j, hp, (⟨rfl, hg⟩ | ⟨g, rfl⟩)⟩
  · have HP : Hid (PS F W0 pb tb s vb j 0 w1) := hp
    have HG : Hid (VerbAt s vb s.size) := hg
    clear hp hg
    go_wp2
    go_ret
    exact ⟨vb, j, HP.out, .inl ⟨rfl, HG.out⟩⟩
  · have HP : Hid (PS F W0 pb tb s vb j 0 w1) := hp
    clear hp
    go_wp2
    go_ret
    exact ⟨vb, j, HP.out, .inr ⟨g, rfl⟩⟩

theorem zzTemplateOf (h : PS F W0 pb tb s verb i d w) : Calls Tryf.prog 14 #[.pointer (some ⟨pb, 0, none⟩)] w fun e w' => e = .returned (.pointer (some ⟨tb, 0, none⟩)) ∧ w' = w := by
  have c2 := h.c2
  clear h
  go_enter Tryf.func14, Tryf.ntmps14
  go_wp2
  go_ret
  exact ⟨rfl, rfl⟩

theorem tmplString (h : PS F W0 pb tb s verb i d w) : Calls Tryf.prog 21 #[.pointer (some ⟨tb, 0, none⟩)] w fun e w' => e = .returned (.string s) ∧ w' = w := by
  obtain ⟨sv, vv, n, m, xs, ys, ht, -, -⟩ := h.rows
  have c0 : w.cell? ⟨tb, 0, none⟩ = some (.string s) := by rw [Lib.cell_of_heap ht.blk]; rfl
  clear h ht
  go_enter Tryf.func21, Tryf.ntmps21
  go_wp2
  go_ret
  exact ⟨rfl, rfl⟩

theorem zzVerb (h : PS F W0 pb tb s verb i d w) : Calls Tryf.prog 18 #[.pointer (some ⟨tb, 0, none⟩)] w fun e w' => e = .returned (.string verb) ∧ w' = w := by
  obtain ⟨sv, vv, n, m, xs, ys, ht, -, -⟩ := h.rows
  have c2 : w.cell? ⟨tb, 2, none⟩ = some (.string verb) := ht.cells.2.2.1
  clear h ht
  go_enter Tryf.func18, Tryf.ntmps18
  go_wp2
  go_ret
  exact ⟨rfl, rfl⟩

/-- zzIndexByte(s, ':', 0): the first colon, or -1. -/
theorem indexColon (s : ByteArray) (hs : s.size ≤ 4096) (w : World) : Calls Tryf.prog 16 #[.string s, .int .u8 58, .int .i64 0] w fun e w' =>
    w' = w ∧ ((e = .returned (.int .i64 (-1)) ∧ Adv s 0 s.size) ∨ ∃ c : Nat, c < s.size ∧ e = .returned (.int .i64 c) ∧ s.data[c]? = some 58 ∧ Adv s 0 c) := by
  go_enter Tryf.func16, Tryf.ntmps16
  go_wp2
  go_loop [7] (fun ix => ∃ k : Nat, k ≤ s.size ∧ ix = .int .i64 k ∧ Hid (Adv s 0 k)) (fun ix => s.size - (intOf ix).toNat)
  case atStart => exact ⟨0, Nat.zero_le _, rfl, Adv.refl _ _⟩
  case round =>
    obtain ⟨k, hk, rfl, HA⟩ := hrel
    by_cases hi : k < s.size
    · have hi' : (k : Int) < (s.size : Int) := by omega
      go_wp2
      · have hb := ‹((s[k].toNat : Int) == 58) = true›
        go_ret
        exact ⟨rfl, .inr ⟨k, hi, rfl, by have := byte_of hi (c := 58) hb; simpa using this, HA.out⟩⟩
      · have hb := ‹((s[k].toNat : Int) == 58) = false›
        exact ⟨⟨k + 1, by omega, rfl, HA.out.trans (Adv.one (not_colon hi (by simpa using hb)))⟩, by simp [intOf]; omega⟩
    · have hi' : ¬ (k : Int) < (s.size : Int) := by omega
      have hks : k = s.size := by omega
      go_wp2
      go_ret
      exact ⟨rfl, .inl ⟨rfl, by rw [← hks]; exact HA.out⟩⟩
end
end Go.Proofs.Qxb6616097aFmt
