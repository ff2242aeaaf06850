/-
  What 'the first place of the name from place k on' says of the places. No Go in sight.
-/
import Derived.Test.Qxb6615940aPlain
import Derived.Lib.IndexMore
import Derived.Lib.IndexBytes
namespace Go.Proofs.Qxb6615940a

theorem occ_iff (t n : ByteArray) (k j : Nat) : Lib.occAt (t.extract k t.size).data.toList n.data.toList j = true ↔ (t.extract (k + j) (k + j + n.size)).toList = n.toList := by
  rw [Lib.extract_to_end, Lib.extract_toList, Lib.toList_data]
  unfold Lib.occAt
  rw [List.isPrefixOf_iff_prefix, List.prefix_iff_eq_take, List.drop_drop, show k + j + n.size - (k + j) = n.data.toList.length from by rw [← Lib.size_eq]; omega]
  exact eq_comm

theorem room {t n : ByteArray} {p : Nat} (h : (t.extract p (p + n.size)).toList = n.toList) (hn : 0 < n.size) : p + n.size ≤ t.size := by
  have := congrArg List.length h
  rw [Lib.extract_toList, Lib.toList_data, List.length_take, List.length_drop, ← Lib.size_eq, ← Lib.size_eq] at this
  omega

theorem idx_spec (t n : ByteArray) (k : Nat) (hk : k ≤ t.size) (hn : 0 < n.size) :
    (Lib.index (t.extract k t.size).data.toList n.data.toList = -1 ∧ ∀ j, k ≤ j → okAtB t n j = false) ∨
    (∃ q : Nat, Lib.index (t.extract k t.size).data.toList n.data.toList = q ∧ k + q + n.size ≤ t.size ∧ ((t.extract (k + q) (k + q + n.size)).toList == n.toList) = true ∧ ∀ j, k ≤ j → j < k + q → okAtB t n j = false) := by
  have hno : ∀ j, k ≤ j → Lib.occAt (t.extract k t.size).data.toList n.data.toList (j - k) = false → okAtB t n j = false := by
    intro j hj h
    have hne : ¬ (t.extract j (j + n.size)).toList = n.toList := by
      intro hc
      have := (occ_iff t n k (j - k)).2 (by rw [show k + (j - k) = j from by omega]; exact hc)
      rw [h] at this
      cases this
    unfold okAtB
    rw [show ((t.extract j (j + n.size)).toList == n.toList) = false from by simpa using hne]
    rfl
  have hlen : (t.extract k t.size).data.toList.length = t.size - k := by rw [Lib.extract_to_end, List.length_drop, ← Lib.size_eq]
  rcases Lib.index_spec (t.extract k t.size).data.toList n.data.toList with ⟨h1, h2⟩ | ⟨q, h1, h2, h3, h4⟩
  · refine .inl ⟨h1, fun j hj => ?_⟩
    by_cases hle : j - k ≤ t.size - k
    · exact hno j hj (h2 _ (by rw [hlen]; exact hle))
    · refine hno j hj ?_
      rw [Bool.eq_false_iff]
      intro hc
      have := room ((occ_iff t n k (j - k)).1 hc) hn
      omega
  · have ho := (occ_iff t n k q).1 h3
    exact .inr ⟨q, h1, room ho hn, by simpa using ho, fun j hj hq => hno j hj (h4 _ (by omega))⟩

end Go.Proofs.Qxb6615940a
