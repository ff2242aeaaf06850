import Derived.Test.Qxb6617066aHeadEnd
namespace Go.Proofs.Qxb6617066a
open Go.RowKit

theorem end_of {xs : List Int} {a e : Nat} (hae : a + 2 ≤ e) (h1 : xs[e - 1]? = some 10) (h2 : xs[e - 2]? = some 10 ∨ (a + 3 ≤ e ∧ xs[e - 2]? = some 13 ∧ xs[e - 3]? = some 10)) : End xs a e := by
  rcases h2 with h2 | ⟨h3, h2, h4⟩
  · exact ⟨e - 2, by omega, h2, .inl ⟨by omega, by rw [show e - 2 + 1 = e - 1 from by omega]; exact h1⟩⟩
  · exact ⟨e - 3, by omega, h4, .inr ⟨by omega, by rw [show e - 3 + 1 = e - 2 from by omega]; exact h2, by rw [show e - 3 + 2 = e - 1 from by omega]; exact h1⟩⟩
theorem of_end {xs : List Int} {a e : Nat} (h : End xs a e) : xs[e - 1]? = some 10 ∧ (xs[e - 2]? = some 10 ∨ (a + 3 ≤ e ∧ xs[e - 2]? = some 13 ∧ xs[e - 3]? = some 10)) := by
  obtain ⟨p, hp, h0, (⟨rfl, h1⟩ | ⟨rfl, h1, h2⟩)⟩ := h
  · exact ⟨h1, .inl h0⟩
  · exact ⟨h2, .inr ⟨by omega, h1, h0⟩⟩
theorem next_end {xs : List Int} {a e : Nat} (hno : ∀ f, f < e → ¬ End xs a f) (h : ¬ (xs[e - 1]? = some 10 ∧ (xs[e - 2]? = some 10 ∨ (a + 3 ≤ e ∧ xs[e - 2]? = some 13 ∧ xs[e - 3]? = some 10)))) : ∀ f, f < e + 1 → ¬ End xs a f := fun f hf hc => by
  by_cases hl : f < e
  · exact hno f hl hc
  · have : f = e := by omega
    subst this
    exact h (of_end hc)

set_option maxRecDepth 20000 in
set_option maxHeartbeats 2000000 in
theorem firstBlank (g n cap a : Nat) (xs : List Int) (w : World) (hx : xs.length = n) (hn : n ≤ cap) (hcap : cap ≤ 1048576) (ha : a ≤ n) (h : BRow w g xs) :
    Calls Try.prog 8 #[.slice (some ⟨g, 0, none⟩) n cap, .int .i64 (a : Int)] w (HeadPost w xs a) := by
  have HR : Hid (BRow w g xs) := h
  clear h
  go_enter Try.func8, Try.ntmps8
  go_wp2
  go_loop [5] (fun ix => ∃ e : Nat, e ≤ n + 2 ∧ ix = .int .i64 (e : Int) ∧ a + 2 ≤ e ∧ Hid (∀ f, f < e → ¬ End xs a f)) (fun ix => n + 2 - (intOf ix).toNat)
  case atStart =>
    refine ⟨a + 2, by omega, by simp, Nat.le_refl _, fun f hf hc => ?_⟩
    obtain ⟨p, hp, _, (⟨rfl, _⟩ | ⟨rfl, _⟩)⟩ := hc <;> omega
  case round =>
    obtain ⟨e, he, rfl, hae, HN⟩ := hrel
    by_cases hen : e ≤ n
    · have hen' : (e : Int) ≤ (n : Int) := by omega
      have y1 : w.cell? ⟨g, e - 1, none⟩ = some (.int .u8 (xs.getD (e - 1) 0)) := HR.out.cell (e - 1) (by omega)
      have y2 : w.cell? ⟨g, e - 2, none⟩ = some (.int .u8 (xs.getD (e - 2) 0)) := HR.out.cell (e - 2) (by omega)
      by_cases h3 : a + 3 ≤ e
      · have y3 : w.cell? ⟨g, e - 3, none⟩ = some (.int .u8 (xs.getD (e - 3) 0)) := HR.out.cell (e - 3) (by omega)
        go_wp2
        all_goals first
          | (go_ret
             refine ⟨rfl, e, rfl, Least.of_end (end_of hae (getD_ten (by decide) (by simpa using ‹(xs[e - 1]?.getD 0 != 10) = false›)) ?_) HN.out⟩
             first
               | exact .inl (getD_ten (by decide) (by simpa using ‹(xs[e - 2]?.getD 0 == 10) = true›))
               | exact .inr ⟨h3, getD_ten (by decide) ‹xs[e - 2]?.getD 0 = 13›, getD_ten (by decide) (by simpa using ‹(xs[e - 3]?.getD 0 == 10) = true›)⟩)
          | (refine ⟨⟨e + 1, by omega, rfl, by omega, next_end HN.out (fun hh => ?_)⟩, by simp [intOf]; omega⟩
             obtain ⟨k1, k2⟩ := hh
             first
               | (have hq := ‹(xs[e - 1]?.getD 0 != 10) = true›; rw [k1] at hq; simp at hq; done)
               | (rcases k2 with k2 | ⟨k3, k2, k4⟩
                  · have hq := ‹(xs[e - 2]?.getD 0 == 10) = false›; rw [k2] at hq; simp at hq
                  · first
                      | (exfalso; omega)
                      | (have hq := ‹(xs[e - 3]?.getD 0 == 10) = false›; rw [k4] at hq; simp at hq; done)
                      | (have hq := ‹¬ xs[e - 2]?.getD 0 = 13›; rw [k2] at hq; simp at hq; done)))
      · have h3' : ¬ (a : Int) ≤ (e : Int) - 3 := by omega
        go_wp2
        all_goals first
          | (go_ret
             refine ⟨rfl, e, rfl, Least.of_end (end_of hae (getD_ten (by decide) (by simpa using ‹(xs[e - 1]?.getD 0 != 10) = false›)) ?_) HN.out⟩
             first
               | exact .inl (getD_ten (by decide) (by simpa using ‹(xs[e - 2]?.getD 0 == 10) = true›))
               | exact .inr ⟨h3, getD_ten (by decide) ‹xs[e - 2]?.getD 0 = 13›, getD_ten (by decide) (by simpa using ‹(xs[e - 3]?.getD 0 == 10) = true›)⟩)
          | (refine ⟨⟨e + 1, by omega, rfl, by omega, next_end HN.out (fun hh => ?_)⟩, by simp [intOf]; omega⟩
             obtain ⟨k1, k2⟩ := hh
             first
               | (have hq := ‹(xs[e - 1]?.getD 0 != 10) = true›; rw [k1] at hq; simp at hq; done)
               | (rcases k2 with k2 | ⟨k3, k2, k4⟩
                  · have hq := ‹(xs[e - 2]?.getD 0 == 10) = false›; rw [k2] at hq; simp at hq
                  · first
                      | (exfalso; omega)
                      | (have hq := ‹(xs[e - 3]?.getD 0 == 10) = false›; rw [k4] at hq; simp at hq; done)
                      | (have hq := ‹¬ xs[e - 2]?.getD 0 = 13›; rw [k2] at hq; simp at hq; done)))
    · have hen' : ¬ (e : Int) ≤ (n : Int) := by omega
      go_wp2
      go_ret
      refine ⟨rfl, 0, rfl, .inl ⟨rfl, fun f hf => ?_⟩⟩
      refine HN.out f ?_ hf
      have := hf.le_len
      omega
end Go.Proofs.Qxb6617066a
