/-
  THE SHELF's CONTRACT FOR (*strings.Builder).WriteString LAID BY HAND AT THIS DUMP (the one command tells it as not laid: the structure names two types, string and the empty interface, that no body of the closure names in this cut: they lie in the dump all the same, at numbers 9 and 20). Each field: a fact of the dump's own, or the kernel's comparison.
-/
import Derived.Shelf.Strings.BuilderK
import Derived.Test.Qxb6615940aShelf
namespace Go.Proofs
open Go.Shelf
def Try.lays166_ren : Go.Shelf.Ren := ⟨fun | 166 => 14 | 240 => 18 | 276 => 20 | n => n, fun | 0 => 0 | 3 => 3 | 4 => 4 | 9 => 9 | 20 => 20 | 37 => 33 | 70 => 56 | 72 => 58 | 75 => 60 | 164 => 66 | 5 => 5 | 80 => 63 | n => n, fun | n => n⟩
theorem Try.lays166 : Go.Proofs.Lays.n166 Try.prog Try.lays166_ren := {
  mixed := by kernel_rfl
  f166 := Try.func14.trans (congrArg some (by kernel_rfl))
  f240 := Try.func18.trans (congrArg some (by kernel_rfl))
  f276 := Try.func20.trans (congrArg some (by kernel_rfl))
  t0 := Try.underlying0
  a0 := Try.isAgg0
  z0 := Try.sizeOf0
  v0 := Try.zeroValue0
  t3 := Try.underlying3
  a3 := Try.isAgg3
  z3 := Try.sizeOf3
  v3 := Try.zeroValue3
  t4 := Try.underlying4
  a4 := Try.isAgg4
  z4 := Try.sizeOf4
  v4 := Try.zeroValue4
  t9 := Try.underlying9
  a9 := Try.isAgg9
  z9 := Try.sizeOf9
  v9 := Try.zeroValue9
  t20 := Try.underlying20
  a20 := Try.isAgg20
  z20 := Try.sizeOf20
  v20 := Try.zeroValue20
  t37 := Try.underlying33
  a37 := Try.isAgg33
  z37 := Try.sizeOf33
  v37 := Try.zeroValue33
  t70 := Try.underlying56
  a70 := Try.isAgg56
  z70 := Try.sizeOf56
  v70 := Try.zeroValue56
  t72 := Try.underlying58
  a72 := Try.isAgg58
  z72 := Try.sizeOf58
  v72 := Try.zeroValue58
  t75 := Try.underlying60
  a75 := Try.isAgg60
  z75 := Try.sizeOf60
  v75 := Try.zeroValue60
  t164 := Try.underlying66
  a164 := Try.isAgg66
  z164 := Try.sizeOf66
  v164 := Try.zeroValue66
}
theorem Try.Builder_Extra_166 : Builder.Extra Try.prog Try.lays166_ren := {
  sizeBuilder := by kernel_rfl
  liesBuilder := by kernel_rfl
  t5 := Try.underlying5
  a5 := Try.isAgg5
  z5 := Try.sizeOf5
  v5 := Try.zeroValue5
  infoByte := by kernel_rfl
  cellsByte := by kernel_rfl
  sizeByte := by kernel_rfl
  neB5 := by decide }

open Go.RowKit in
theorem Try.Builder_WriteString_k (B b : Nat) (bs : List Value) (s : ByteArray) (w : World) (h : Lib.IsBuilderF 58 5 B b bs w) (hlen : bs.length + s.size ≤ 140737488355328) (hBw : B ≤ w.heap.size) :
    Calls Try.prog 14 #[.pointer (some ⟨b, 0, none⟩), .string s] w fun e w' => e = .returned (.tuple #[.int .i64 s.size, .nilIface]) ∧ (Lib.BuilderAtF 58 5 B b (.pointer (some ⟨b, 0, none⟩)) (bs ++ Lib.strCells s) w' ∧ Below B w w' ∧ Lib.OthersKept 5 (some b) w w') :=
  Any.Builder_WriteString_k Try.lays166 Try.Builder_Extra_166 B b bs s w h hlen hBw

open Go.RowKit in
theorem Try.Builder_String_any_k (B b : Nat) (l : List UInt8) (w : World) (h : Lib.IsBuilderF 58 5 B b (Lib.byteCells l) w) (hBw : B ≤ w.heap.size) :
    Calls Try.prog 15 #[.pointer (some ⟨b, 0, none⟩)] w fun e w' => e = .returned (.string ⟨l.toArray⟩) ∧ (Lib.IsBuilderF 58 5 B b (Lib.byteCells l) w' ∧ Below B w w' ∧ Lib.OthersKept 5 (some b) w w') :=
  Any.Builder_String_any_k Try.lays169 Try.Builder_Extra_169 B b l w h hBw
end Go.Proofs
