/-
  THE PLAIN LAW: no Go in sight. What the functions on the road compute, as functions on lists of bytes.
-/
import Derived.WalkKit
namespace Go.Proofs.Qxb6615940a

/-- A byte of an identifier. -/
def identB (c : Int) : Bool :=
  c == 95 || c == 36 || (decide (48 ≤ c) && decide (c ≤ 57)) || (decide (97 ≤ c) && decide (c ≤ 122)) || (decide (65 ≤ c) && decide (c ≤ 90)) || decide (128 ≤ c)

/-- The byte at a place, 0 beyond the end. -/
def byteAt (t : ByteArray) (i : Nat) : Int := if h : i < t.size then (t[i].toNat : Int) else 0

theorem byteAt_pos {t : ByteArray} {i : Nat} (h : i < t.size) : byteAt t i = (t[i].toNat : Int) := by simp [byteAt, h]

/-- The name stands at place k of the text, quoted or as a whole identifier. -/
def okAtB (t n : ByteArray) (k : Nat) : Bool :=
  ((t.extract k (k + n.size)).toList == n.toList) && (byteAt n 0 == 34 || ((k == 0 || !identB (byteAt t (k - 1))) && (k + n.size == t.size || !identB (byteAt t (k + n.size)))))

/-- The text mentions the name. -/
def mentB (t n : ByteArray) : Bool := (List.range (t.size + 1)).any fun k => decide (k + n.size ≤ t.size) && okAtB t n k

theorem mentB_true {t n : ByteArray} {k : Nat} (h : k + n.size ≤ t.size) (ho : okAtB t n k = true) : mentB t n = true := by
  simp only [mentB, List.any_eq_true, List.mem_range, Bool.and_eq_true, decide_eq_true_eq]
  exact ⟨k, by omega, h, ho⟩

theorem mentB_false {t n : ByteArray} (h : ∀ k, k + n.size ≤ t.size → okAtB t n k = false) : mentB t n = false := by
  rw [Bool.eq_false_iff]
  intro hc
  simp only [mentB, List.any_eq_true, List.mem_range, Bool.and_eq_true, decide_eq_true_eq] at hc
  obtain ⟨k, _, h1, h2⟩ := hc
  rw [h k h1] at h2
  cases h2

/-- The type of the last column of that name; empty where there is none. -/
def typeOf (cs : List (ByteArray × ByteArray)) (n : ByteArray) : ByteArray :=
  cs.foldl (fun acc c => if (c.1.toList == n.toList) = true then c.2 else acc) ByteArray.empty

theorem typeOf_snoc (cs : List (ByteArray × ByteArray)) (c : ByteArray × ByteArray) (n : ByteArray) :
    typeOf (cs ++ [c]) n = if (c.1.toList == n.toList) = true then c.2 else typeOf cs n := by
  simp only [typeOf, List.foldl_append, List.foldl_cons, List.foldl_nil]

theorem take_snoc {α : Type} {l : List α} {k : Nat} {c : α} (h : l[k]? = some c) : l.take (k + 1) = l.take k ++ [c] := by
  rw [List.take_add_one, h]; rfl

theorem typeOf_hit {cs : List (ByteArray × ByteArray)} {k : Nat} {c : ByteArray × ByteArray} {n : ByteArray} (h : cs[k]? = some c) (he : (c.1.toList == n.toList) = true) : typeOf (cs.take (k + 1)) n = c.2 := by
  rw [take_snoc h, typeOf_snoc, if_pos he]
theorem typeOf_miss {cs : List (ByteArray × ByteArray)} {k : Nat} {c : ByteArray × ByteArray} {n : ByteArray} (h : cs[k]? = some c) (he : (c.1.toList == n.toList) = false) : typeOf (cs.take (k + 1)) n = typeOf (cs.take k) n := by
  rw [take_snoc h, typeOf_snoc, if_neg (by rw [he]; decide)]

end Go.Proofs.Qxb6615940a
