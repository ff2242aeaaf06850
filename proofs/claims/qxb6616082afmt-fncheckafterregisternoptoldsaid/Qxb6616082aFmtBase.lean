/-
  THE PLAIN FUNCTIONS AND THE ROW OF ARGUMENTS, as the walks carry it. No Go function is walked here.
-/
import Derived.Test.Qxb6616082aFmtRows
import Derived.Test.Qxb6616082aFmtFacts
import Derived.Test.Qxb6616082aFmtShelf
import Derived.WalkKit
import Derived.WalkSpells
import Derived.Below
import Derived.Deep.QuietTactic
import Derived.BigQuiet
import Derived.Lib.Varint
import Derived.Deep.Light
namespace Go.Proofs.Qxb6616082aFmt
open Go.RowKit Go.Extern.Stop Go.Stop Go.Extern

/-- The length of x as an unsigned varint. -/
def ulen (x : Nat) : Nat := (Lib.uvarint x).length
def ssz (s : ByteArray) : Nat := ulen s.size + s.size
def asz (xs : List ByteArray) : Nat := (xs.map ssz).sum
def lsz (xs : List ByteArray) : Nat := (xs.map (·.size)).sum
/-- The encoded call's length. -/
def csz (name : ByteArray) (xs : List ByteArray) : Nat := ssz name + ulen xs.length + asz xs

theorem ulen_small {x : Nat} (h : x < 128) : ulen x = 1 := by rw [ulen, Lib.uvarint_small h]; rfl
theorem ulen_big {x : Nat} (h : 128 ≤ x) : ulen x = ulen (x / 128) + 1 := by rw [ulen, Lib.uvarint_big h]; rfl
theorem ulen_le {x : Nat} (h : x < 18446744073709551616) : ulen x ≤ 10 := Lib.uvarint_length64 h
theorem ulen_pos (x : Nat) : 1 ≤ ulen x := Lib.uvarint_pos x

theorem getD_at {xs : List ByteArray} {k : Nat} (h : k < xs.length) : xs.getD k ⟨#[]⟩ = xs[k] := by
  rw [List.getD_eq_getElem?_getD, List.getElem?_eq_getElem h]; rfl
theorem sum_take (f : ByteArray → Nat) {xs : List ByteArray} {k : Nat} (h : k < xs.length) : ((xs.take (k + 1)).map f).sum = ((xs.take k).map f).sum + f (xs.getD k ⟨#[]⟩) := by
  rw [List.take_succ_eq_append_getElem h, List.map_append, List.sum_append, getD_at h]; simp
theorem asz_step {xs : List ByteArray} {k : Nat} (h : k < xs.length) : asz (xs.take (k + 1)) = asz (xs.take k) + ssz (xs.getD k ⟨#[]⟩) := sum_take ssz h
theorem lsz_step {xs : List ByteArray} {k : Nat} (h : k < xs.length) : lsz (xs.take (k + 1)) = lsz (xs.take k) + (xs.getD k ⟨#[]⟩).size := sum_take (·.size) h
theorem lsz_le (xs : List ByteArray) (k : Nat) : lsz (xs.take k) ≤ lsz xs := by
  have : lsz xs = lsz (xs.take k) + lsz (xs.drop k) := by
    rw [lsz, lsz, lsz, ← List.sum_append, ← List.map_append, List.take_append_drop]
  omega
theorem size_le {xs : List ByteArray} {k : Nat} (h : k < xs.length) : (xs.getD k ⟨#[]⟩).size ≤ lsz xs := by
  have h1 := lsz_step h
  have h2 := lsz_le xs (k + 1)
  omega
theorem asz_le : ∀ (xs : List ByteArray), lsz xs < 18446744073709551616 → asz xs ≤ lsz xs + 10 * xs.length
  | [], _ => by simp [asz, lsz]
  | x :: xs, h => by
    have e1 : asz (x :: xs) = ssz x + asz xs := by simp [asz]
    have e2 : lsz (x :: xs) = x.size + lsz xs := by simp [lsz]
    have h1 := asz_le xs (by omega)
    have h2 := ulen_le (x := x.size) (by omega)
    rw [e1, e2]
    simp only [ssz, List.length_cons]
    omega
theorem asz_take_le (xs : List ByteArray) (k : Nat) : asz (xs.take k) ≤ asz xs := by
  have : asz xs = asz (xs.take k) + asz (xs.drop k) := by
    rw [asz, asz, asz, ← List.sum_append, ← List.map_append, List.take_append_drop]
  omega

/-- The sizes that overBudget lets pass. -/
structure Budget (name : ByteArray) (xs : List ByteArray) : Prop where
  count : xs.length ≤ 65536
  total : name.size + 16 * xs.length + lsz xs ≤ 1048576

/-- The slice leads to the strings xs. -/
structure Args (w : World) (a : Option Addr) (n : Nat) (xs : List ByteArray) : Prop where
  len : xs.length = n
  cell : ∀ i, i < n → ∃ b o, a = some ⟨b, o, none⟩ ∧ b < w.heap.size ∧ w.cell? ⟨b, o + i, none⟩ = some (.string (xs.getD i ⟨#[]⟩))

theorem Args.of_below {w w' : World} {a : Option Addr} {n : Nat} {xs : List ByteArray} (h : Args w a n xs) {B : Nat} (hB : w.heap.size ≤ B) (hb : Below B w w') : Args w' a n xs :=
  ⟨h.len, fun i hi => by
    obtain ⟨b, o, ha, hlt, hc⟩ := h.cell i hi
    exact ⟨b, o, ha, Nat.lt_of_lt_of_le hlt hb.size, (hb.cell (p := ⟨b, o + i, none⟩) (Nat.lt_of_lt_of_le hlt hB)).trans hc⟩⟩

end Go.Proofs.Qxb6616082aFmt
