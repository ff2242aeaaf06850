import Derived.Test.Qxb6617066aSmall
namespace Go.Proofs.Qxb6617066a
open Go.RowKit

def HoldsPost (w : World) (xs : List Int) (a : Nat) (e : Ending) (w' : World) : Prop := w' = w ∧ ∃ b : Bool, e = .returned (.bool b) ∧ ((b = true ∧ ∃ f, End xs a f) ∨ (b = false ∧ ∀ f, ¬ End xs a f))

theorem BRow.at {w : World} {g : Nat} {xs : List Int} (h : BRow w g xs) (i : Nat) (hi : i < xs.length) : ∃ z, w.cell? ⟨g, i, none⟩ = some (.int .u8 z) ∧ Hid (xs[i]? = some z) := by
  refine ⟨xs.getD i 0, h.cell i hi, ?_⟩
  show xs[i]? = some _
  rw [List.getD_eq_getElem?_getD, List.getElem?_eq_getElem hi]
  rfl

theorem no_cand {xs : List Int} {a p : Nat} (hno : ∀ q f, a ≤ q → q < p → ¬ Cand xs q f) (h : ∀ f, ¬ Cand xs p f) : ∀ q f, a ≤ q → q < p + 1 → ¬ Cand xs q f := fun q f hq hlt hc => by
  by_cases hl : q < p
  · exact hno q f hq hl hc
  · have : q = p := by omega
    subst this
    exact h f hc

set_option maxRecDepth 20000 in
set_option maxHeartbeats 2000000 in
theorem holds (g n cap a : Nat) (xs : List Int) (w : World) (hx : xs.length = n) (hn : n ≤ cap) (hcap : cap ≤ 1048576) (ha : a ≤ n) (h : BRow w g xs) :
    Calls Try.prog 10 #[.slice (some ⟨g, 0, none⟩) n cap, .int .i64 (a : Int)] w (HoldsPost w xs a) := by
  have HR : Hid (BRow w g xs) := h
  clear h
  go_enter Try.func10, Try.ntmps10
  go_wp2
  go_loop [5] (fun ix => ∃ p : Nat, p ≤ n ∧ ix = .int .i64 (p : Int) ∧ a ≤ p ∧ Hid (∀ q f, a ≤ q → q < p → ¬ Cand xs q f)) (fun ix => n - (intOf ix).toNat)
  case atStart => exact ⟨a, ha, rfl, Nat.le_refl _, fun q f h1 h2 => absurd h2 (by omega)⟩
  case round =>
    obtain ⟨p, hp, rfl, hap, HN⟩ := hrel
    by_cases hpn : p < n
    · have hpn' : (p : Int) < (n : Int) := by omega
      obtain ⟨z0, y0, Z0⟩ := HR.out.at p (by omega)
      by_cases h1 : p + 1 < n
      · obtain ⟨z1, y1, Z1⟩ := HR.out.at (p + 1) (by omega)
        by_cases h2 : p + 2 < n
        · obtain ⟨z2, y2, Z2⟩ := HR.out.at (p + 2) (by omega)
          go_wp2
          all_goals first
            | (go_ret
               exact ⟨rfl, true, rfl, .inl ⟨rfl, _, p, hap, by rw [Z0.out, show z0 = 10 from by simpa using ‹(z0 != 10) = false›], .inl ⟨rfl, by rw [Z1.out, show z1 = 10 from by simpa using ‹(z1 == 10) = true›]⟩⟩⟩)
            | (go_ret
               exact ⟨rfl, true, rfl, .inl ⟨rfl, _, p, hap, by rw [Z0.out, show z0 = 10 from by simpa using ‹(z0 != 10) = false›], .inr ⟨rfl, by rw [Z1.out, ‹z1 = 13›], by rw [Z2.out, show z2 = 10 from by simpa using ‹(z2 == 10) = true›]⟩⟩⟩)
            | (refine ⟨⟨p + 1, by omega, rfl, by omega, no_cand HN.out fun f hc => ?_⟩, by simp [intOf]; omega⟩
               obtain ⟨k0, k1⟩ := hc
               rw [Z0.out] at k0
               have e0 := Option.some.inj k0
               first
                 | (have hq := ‹(z0 != 10) = true›; rw [e0] at hq; simp at hq; done)
                 | (rcases k1 with ⟨_, k1⟩ | ⟨_, k1, k2⟩
                    · first
                        | (have hl := (List.getElem?_eq_some_iff.1 k1).1; exfalso; omega)
                        | (rw [Z1.out] at k1; have e1 := Option.some.inj k1; have hq := ‹(z1 == 10) = false›; rw [e1] at hq; simp at hq; done)
                    · first
                        | (have hl := (List.getElem?_eq_some_iff.1 k2).1; exfalso; omega)
                        | (rw [Z2.out] at k2; have e2 := Option.some.inj k2; have hq := ‹(z2 == 10) = false›; rw [e2] at hq; simp at hq; done)
                        | (rw [Z1.out] at k1; have e1 := Option.some.inj k1; exact absurd e1 ‹¬ z1 = 13›)))
        · go_wp2
          all_goals first
            | (go_ret
               exact ⟨rfl, true, rfl, .inl ⟨rfl, _, p, hap, by rw [Z0.out, show z0 = 10 from by simpa using ‹(z0 != 10) = false›], .inl ⟨rfl, by rw [Z1.out, show z1 = 10 from by simpa using ‹(z1 == 10) = true›]⟩⟩⟩)
            | (go_ret
               exact ⟨rfl, true, rfl, .inl ⟨rfl, _, p, hap, by rw [Z0.out, show z0 = 10 from by simpa using ‹(z0 != 10) = false›], .inr ⟨rfl, by rw [Z1.out, ‹z1 = 13›], by rw [Z2.out, show z2 = 10 from by simpa using ‹(z2 == 10) = true›]⟩⟩⟩)
            | (refine ⟨⟨p + 1, by omega, rfl, by omega, no_cand HN.out fun f hc => ?_⟩, by simp [intOf]; omega⟩
               obtain ⟨k0, k1⟩ := hc
               rw [Z0.out] at k0
               have e0 := Option.some.inj k0
               first
                 | (have hq := ‹(z0 != 10) = true›; rw [e0] at hq; simp at hq; done)
                 | (rcases k1 with ⟨_, k1⟩ | ⟨_, k1, k2⟩
                    · first
                        | (have hl := (List.getElem?_eq_some_iff.1 k1).1; exfalso; omega)
                        | (rw [Z1.out] at k1; have e1 := Option.some.inj k1; have hq := ‹(z1 == 10) = false›; rw [e1] at hq; simp at hq; done)
                    · first
                        | (have hl := (List.getElem?_eq_some_iff.1 k2).1; exfalso; omega)
                        | (rw [Z2.out] at k2; have e2 := Option.some.inj k2; have hq := ‹(z2 == 10) = false›; rw [e2] at hq; simp at hq; done)
                        | (rw [Z1.out] at k1; have e1 := Option.some.inj k1; exact absurd e1 ‹¬ z1 = 13›)))
      · go_wp2
        all_goals first
          | (go_ret
             exact ⟨rfl, true, rfl, .inl ⟨rfl, _, p, hap, by rw [Z0.out, show z0 = 10 from by simpa using ‹(z0 != 10) = false›], .inl ⟨rfl, by rw [Z1.out, show z1 = 10 from by simpa using ‹(z1 == 10) = true›]⟩⟩⟩)
          | (go_ret
             exact ⟨rfl, true, rfl, .inl ⟨rfl, _, p, hap, by rw [Z0.out, show z0 = 10 from by simpa using ‹(z0 != 10) = false›], .inr ⟨rfl, by rw [Z1.out, ‹z1 = 13›], by rw [Z2.out, show z2 = 10 from by simpa using ‹(z2 == 10) = true›]⟩⟩⟩)
          | (refine ⟨⟨p + 1, by omega, rfl, by omega, no_cand HN.out fun f hc => ?_⟩, by simp [intOf]; omega⟩
             obtain ⟨k0, k1⟩ := hc
             rw [Z0.out] at k0
             have e0 := Option.some.inj k0
             first
               | (have hq := ‹(z0 != 10) = true›; rw [e0] at hq; simp at hq; done)
               | (rcases k1 with ⟨_, k1⟩ | ⟨_, k1, k2⟩
                  · first
                      | (have hl := (List.getElem?_eq_some_iff.1 k1).1; exfalso; omega)
                      | (rw [Z1.out] at k1; have e1 := Option.some.inj k1; have hq := ‹(z1 == 10) = false›; rw [e1] at hq; simp at hq; done)
                  · first
                      | (have hl := (List.getElem?_eq_some_iff.1 k2).1; exfalso; omega)
                      | (rw [Z2.out] at k2; have e2 := Option.some.inj k2; have hq := ‹(z2 == 10) = false›; rw [e2] at hq; simp at hq; done)
                      | (rw [Z1.out] at k1; have e1 := Option.some.inj k1; exact absurd e1 ‹¬ z1 = 13›)))
    · have hpn' : ¬ (p : Int) < (n : Int) := by omega
      go_wp2
      go_ret
      refine ⟨rfl, false, rfl, .inr ⟨rfl, fun f hf => ?_⟩⟩
      obtain ⟨q, hq, hc⟩ := hf
      by_cases hl : q < p
      · exact HN.out q f hq hl hc
      · have := (List.getElem?_eq_some_iff.1 hc.1).1
        omega
end Go.Proofs.Qxb6617066a
