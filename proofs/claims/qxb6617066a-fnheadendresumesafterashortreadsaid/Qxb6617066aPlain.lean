/- What a head's end is: no Go in sight. -/
import Derived.Lib.Bytealg
import Derived.Below
namespace Go.Proofs.Qxb6617066a

/-- An empty line whose line end before it begins at p ends at e. -/
def Cand (xs : List Int) (p e : Nat) : Prop := xs[p]? = some 10 ∧ ((e = p + 2 ∧ xs[p + 1]? = some 10) ∨ (e = p + 3 ∧ xs[p + 1]? = some 13 ∧ xs[p + 2]? = some 10))
def End (xs : List Int) (from_ e : Nat) : Prop := ∃ p, from_ ≤ p ∧ Cand xs p e
/-- r is the least end, or 0 where there is none. -/
def Least (xs : List Int) (from_ r : Nat) : Prop := (r = 0 ∧ ∀ e, ¬ End xs from_ e) ∨ (End xs from_ r ∧ ∀ e, End xs from_ e → r ≤ e)

theorem Cand.order {xs : List Int} {p q e f : Nat} (h : Cand xs p e) (k : Cand xs q f) (hpq : p < q) : e < f := by
  obtain ⟨h0, h1⟩ := h
  obtain ⟨k0, k1⟩ := k
  rcases h1 with ⟨rfl, _⟩ | ⟨rfl, h2, _⟩
  · rcases k1 with ⟨rfl, _⟩ | ⟨rfl, _⟩ <;> omega
  · have : q ≠ p + 1 := by rintro rfl; rw [k0] at h2; cases h2
    rcases k1 with ⟨rfl, _⟩ | ⟨rfl, _⟩ <;> omega

theorem Cand.unique {xs : List Int} {p e f : Nat} (h : Cand xs p e) (k : Cand xs p f) : e = f := by
  rcases h.2 with ⟨rfl, h1⟩ | ⟨rfl, h1, _⟩ <;> rcases k.2 with ⟨rfl, k1⟩ | ⟨rfl, k1, _⟩
  · rfl
  · rw [h1] at k1; cases k1
  · rw [h1] at k1; cases k1
  · rfl

theorem End.two {xs : List Int} {a e : Nat} (h : End xs a e) : 2 ≤ e := by
  obtain ⟨p, _, _, (⟨rfl, _⟩ | ⟨rfl, _⟩)⟩ := h <;> omega

theorem End.le_len {xs : List Int} {a e : Nat} (h : End xs a e) : e ≤ xs.length := by
  obtain ⟨p, _, _, (⟨rfl, h1⟩ | ⟨rfl, _, h1⟩)⟩ := h
  · have := (List.getElem?_eq_some_iff.1 h1).1; omega
  · have := (List.getElem?_eq_some_iff.1 h1).1; omega

theorem Least.unique {xs : List Int} {a r t : Nat} (h : Least xs a r) (k : Least xs a t) : r = t := by
  rcases h with ⟨rfl, h⟩ | ⟨h, hm⟩ <;> rcases k with ⟨rfl, k⟩ | ⟨k, km⟩
  · rfl
  · exact absurd k (h _)
  · exact absurd h (k _)
  · exact Nat.le_antisymm (hm _ k) (km _ h)

/-- The first line end that is followed by an empty line gives the least end. -/
theorem Least.of_first {xs : List Int} {a p e : Nat} (hp : a ≤ p) (hc : Cand xs p e) (hno : ∀ q f, a ≤ q → q < p → ¬ Cand xs q f) : Least xs a e := by
  refine .inr ⟨⟨p, hp, hc⟩, ?_⟩
  rintro f ⟨q, hq, hk⟩
  rcases Nat.lt_trichotomy q p with h | rfl | h
  · exact absurd hk (hno q f hq h)
  · exact Nat.le_of_eq (hc.unique hk)
  · exact Nat.le_of_lt (hc.order hk h)

theorem Least.none {xs : List Int} {a : Nat} (hno : ∀ q f, a ≤ q → ¬ Cand xs q f) : Least xs a 0 := .inl ⟨rfl, fun e ⟨p, hp, hc⟩ => hno p e hp hc⟩

/-- The least end, come to by the ends. -/
theorem Least.of_end {xs : List Int} {a e : Nat} (he : End xs a e) (hno : ∀ f, f < e → ¬ End xs a f) : Least xs a e :=
  .inr ⟨he, fun f hf => Nat.le_of_not_lt fun h => hno f h hf⟩

end Go.Proofs.Qxb6617066a
