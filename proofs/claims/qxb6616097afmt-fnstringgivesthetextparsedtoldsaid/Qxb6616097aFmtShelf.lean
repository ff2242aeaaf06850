/- THE SHELF's CONTRACTS that this road needs, at this dump (laid by the kit's lay-shelf and lay-plain, cut down). -/
import Derived.Shelf.Small.Utf8
import Derived.Shelf.Small.Strs
import Derived.Shelf.Strings.Search1
import Derived.Shelf.Strings.Prefix
import Derived.Shelf.Strings.Runes
import Derived.Test.Qxb6616097aFmtProg
namespace Go.Proofs
open Go.Shelf
def Tryf.lays119_ren : Go.Shelf.Ren := ⟨fun | 119 => 74 | n => n, fun | 21 => 21 | 4 => 4 | n => n, fun | n => n⟩
theorem Tryf.lays119 : Go.Proofs.Lays.n119 Tryf.prog Tryf.lays119_ren := {
  mixed := by kernel_rfl
  f119 := Tryf.func74.trans (congrArg some (by kernel_rfl))
  t4 := Tryf.underlying4
  a4 := Tryf.isAgg4
  z4 := Tryf.sizeOf4
  v4 := Tryf.zeroValue4
  t21 := Tryf.underlying21
  a21 := Tryf.isAgg21
  z21 := Tryf.sizeOf21
  v21 := Tryf.zeroValue21 }
theorem Tryf.utf8_ValidRune (r : Int) (w : World) :
    Calls Tryf.prog 74 #[.int .i32 r] w fun e w' => e = .returned (.bool (Lib.validRune r)) ∧ w' = w := Any.utf8_ValidRune Tryf.lays119 r w
def Tryf.lays137_ren : Go.Shelf.Ren := ⟨fun | 137 => 59 | 217 => 69 | 266 => 77 | n => n, fun | 9 => 9 | 5 => 5 | 3 => 3 | n => n, fun | n => n⟩
theorem Tryf.lays137 : Go.Proofs.Lays.n137 Tryf.prog Tryf.lays137_ren := {
  mixed := by kernel_rfl
  f137 := Tryf.func59.trans (congrArg some (by kernel_rfl))
  f217 := Tryf.func69.trans (congrArg some (by kernel_rfl))
  f266 := Tryf.func77.trans (congrArg some (by kernel_rfl))
  t3 := Tryf.underlying3
  a3 := Tryf.isAgg3
  z3 := Tryf.sizeOf3
  v3 := Tryf.zeroValue3
  t5 := Tryf.underlying5
  a5 := Tryf.isAgg5
  z5 := Tryf.sizeOf5
  v5 := Tryf.zeroValue5
  t9 := Tryf.underlying9
  a9 := Tryf.isAgg9
  z9 := Tryf.sizeOf9
  v9 := Tryf.zeroValue9 }
open Go.RowKit in
theorem Tryf.strings_IndexByte (s : ByteArray) (c : Int) (w : World) :
    Calls Tryf.prog 59 #[.string s, .int .u8 c] w fun e w' => e = .returned (.int .i64 (Lib.indexByte s.data.toList c.toNat.toUInt8)) ∧ w' = w := Any.strings_IndexByte Tryf.lays137 s c w
def Tryf.lays217_ren : Go.Shelf.Ren := ⟨fun | 217 => 69 | 266 => 77 | n => n, fun | 9 => 9 | 5 => 5 | 3 => 3 | n => n, fun | n => n⟩
theorem Tryf.lays217 : Go.Proofs.Lays.n217 Tryf.prog Tryf.lays217_ren := {
  mixed := by kernel_rfl
  f217 := Tryf.func69.trans (congrArg some (by kernel_rfl))
  f266 := Tryf.func77.trans (congrArg some (by kernel_rfl))
  t3 := Tryf.underlying3
  a3 := Tryf.isAgg3
  z3 := Tryf.sizeOf3
  v3 := Tryf.zeroValue3
  t5 := Tryf.underlying5
  a5 := Tryf.isAgg5
  z5 := Tryf.sizeOf5
  v5 := Tryf.zeroValue5
  t9 := Tryf.underlying9
  a9 := Tryf.isAgg9
  z9 := Tryf.sizeOf9
  v9 := Tryf.zeroValue9 }
open Go.RowKit Go.Lib in
theorem Tryf.stringslite_IndexByte (s : ByteArray) (c : Int) (w : World) :
    Calls Tryf.prog 69 #[.string s, .int .u8 c] w fun e w' => e = .returned (.int .i64 (Lib.indexByte s.data.toList c.toNat.toUInt8)) ∧ w' = w := Any.stringslite_IndexByte Tryf.lays217 s c w
def Tryf.lays206_ren : Go.Shelf.Ren := ⟨fun | 206 => 72 | n => n, fun | 9 => 9 | 4 => 4 | 3 => 3 | n => n, fun | n => n⟩
theorem Tryf.lays206 : Go.Proofs.Lays.n206 Tryf.prog Tryf.lays206_ren := {
  mixed := by kernel_rfl
  f206 := Tryf.func72.trans (congrArg some (by kernel_rfl))
  t3 := Tryf.underlying3
  a3 := Tryf.isAgg3
  z3 := Tryf.sizeOf3
  v3 := Tryf.zeroValue3
  t4 := Tryf.underlying4
  a4 := Tryf.isAgg4
  z4 := Tryf.sizeOf4
  v4 := Tryf.zeroValue4
  t9 := Tryf.underlying9
  a9 := Tryf.isAgg9
  z9 := Tryf.sizeOf9
  v9 := Tryf.zeroValue9 }
open Go.RowKit Go.Lib in
theorem Tryf.stringslite_HasPrefix (s p : ByteArray) (w : World) :
    Calls Tryf.prog 72 #[.string s, .string p] w fun e w' => e = .returned (.bool (Lib.hasPrefix s.data.toList p.data.toList)) ∧ w' = w := Any.stringslite_HasPrefix Tryf.lays206 s p w
def Tryf.lays99_ren : Go.Shelf.Ren := ⟨fun | 99 => 65 | 206 => 72 | n => n, fun | 9 => 9 | 4 => 4 | 3 => 3 | n => n, fun | n => n⟩
theorem Tryf.lays99 : Go.Proofs.Lays.n99 Tryf.prog Tryf.lays99_ren := {
  mixed := by kernel_rfl
  f99 := Tryf.func65.trans (congrArg some (by kernel_rfl))
  f206 := Tryf.func72.trans (congrArg some (by kernel_rfl))
  t3 := Tryf.underlying3
  a3 := Tryf.isAgg3
  z3 := Tryf.sizeOf3
  v3 := Tryf.zeroValue3
  t4 := Tryf.underlying4
  a4 := Tryf.isAgg4
  z4 := Tryf.sizeOf4
  v4 := Tryf.zeroValue4
  t9 := Tryf.underlying9
  a9 := Tryf.isAgg9
  z9 := Tryf.sizeOf9
  v9 := Tryf.zeroValue9 }
open Go.RowKit Go.Lib in
theorem Tryf.strings_HasPrefix (s p : ByteArray) (w : World) :
    Calls Tryf.prog 65 #[.string s, .string p] w fun e w' => e = .returned (.bool (Lib.hasPrefix s.data.toList p.data.toList)) ∧ w' = w := Any.strings_HasPrefix Tryf.lays99 s p w
def Tryf.lays152_ren : Go.Shelf.Ren := ⟨fun | 152 => 67 | 137 => 59 | 119 => 74 | 224 => 75 | 225 => 76 | 217 => 69 | 266 => 77 | n => n, fun | 9 => 9 | 21 => 21 | 3 => 3 | 4 => 4 | 5 => 5 | 0 => 0 | 46 => 95 | n => n, fun | n => n⟩
theorem Tryf.lays152 : Go.Proofs.Lays.n152 Tryf.prog Tryf.lays152_ren := {
  mixed := by kernel_rfl
  f119 := Tryf.func74.trans (congrArg some (by kernel_rfl))
  f137 := Tryf.func59.trans (congrArg some (by kernel_rfl))
  f152 := Tryf.func67.trans (congrArg some (by kernel_rfl))
  f217 := Tryf.func69.trans (congrArg some (by kernel_rfl))
  f224 := Tryf.func75.trans (congrArg some (by kernel_rfl))
  f225 := Tryf.func76.trans (congrArg some (by kernel_rfl))
  f266 := Tryf.func77.trans (congrArg some (by kernel_rfl))
  t0 := Tryf.underlying0
  a0 := Tryf.isAgg0
  z0 := Tryf.sizeOf0
  v0 := Tryf.zeroValue0
  t3 := Tryf.underlying3
  a3 := Tryf.isAgg3
  z3 := Tryf.sizeOf3
  v3 := Tryf.zeroValue3
  t4 := Tryf.underlying4
  a4 := Tryf.isAgg4
  z4 := Tryf.sizeOf4
  v4 := Tryf.zeroValue4
  t5 := Tryf.underlying5
  a5 := Tryf.isAgg5
  z5 := Tryf.sizeOf5
  v5 := Tryf.zeroValue5
  t9 := Tryf.underlying9
  a9 := Tryf.isAgg9
  z9 := Tryf.sizeOf9
  v9 := Tryf.zeroValue9
  t21 := Tryf.underlying21
  a21 := Tryf.isAgg21
  z21 := Tryf.sizeOf21
  v21 := Tryf.zeroValue21
  t46 := Tryf.underlying95
  a46 := Tryf.isAgg95
  z46 := Tryf.sizeOf95
  v46 := Tryf.zeroValue95 }
open Go.RowKit Go.Lib in
theorem Tryf.strings_IndexRune_ascii (s : ByteArray) (r : Int) (w : World) (h0 : 0 ≤ r) (h1 : r < 128) :
    Calls Tryf.prog 67 #[.string s, .int .i32 r] w fun e w' => e = .returned (.int .i64 (Lib.indexByte s.data.toList r.toNat.toUInt8)) ∧ w' = w := Any.strings_IndexRune_ascii Tryf.lays152 s r w h0 h1
def Tryf.lays151_ren : Go.Shelf.Ren := ⟨fun | 151 => 56 | 152 => 67 | 137 => 59 | 119 => 74 | 224 => 75 | 225 => 76 | 217 => 69 | 266 => 77 | n => n, fun | 9 => 9 | 21 => 21 | 4 => 4 | 3 => 3 | 5 => 5 | 0 => 0 | 46 => 95 | n => n, fun | n => n⟩
theorem Tryf.lays151 : Go.Proofs.Lays.n151 Tryf.prog Tryf.lays151_ren := {
  mixed := by kernel_rfl
  f119 := Tryf.func74.trans (congrArg some (by kernel_rfl))
  f137 := Tryf.func59.trans (congrArg some (by kernel_rfl))
  f151 := Tryf.func56.trans (congrArg some (by kernel_rfl))
  f152 := Tryf.func67.trans (congrArg some (by kernel_rfl))
  f217 := Tryf.func69.trans (congrArg some (by kernel_rfl))
  f224 := Tryf.func75.trans (congrArg some (by kernel_rfl))
  f225 := Tryf.func76.trans (congrArg some (by kernel_rfl))
  f266 := Tryf.func77.trans (congrArg some (by kernel_rfl))
  t0 := Tryf.underlying0
  a0 := Tryf.isAgg0
  z0 := Tryf.sizeOf0
  v0 := Tryf.zeroValue0
  t3 := Tryf.underlying3
  a3 := Tryf.isAgg3
  z3 := Tryf.sizeOf3
  v3 := Tryf.zeroValue3
  t4 := Tryf.underlying4
  a4 := Tryf.isAgg4
  z4 := Tryf.sizeOf4
  v4 := Tryf.zeroValue4
  t5 := Tryf.underlying5
  a5 := Tryf.isAgg5
  z5 := Tryf.sizeOf5
  v5 := Tryf.zeroValue5
  t9 := Tryf.underlying9
  a9 := Tryf.isAgg9
  z9 := Tryf.sizeOf9
  v9 := Tryf.zeroValue9
  t21 := Tryf.underlying21
  a21 := Tryf.isAgg21
  z21 := Tryf.sizeOf21
  v21 := Tryf.zeroValue21
  t46 := Tryf.underlying95
  a46 := Tryf.isAgg95
  z46 := Tryf.sizeOf95
  v46 := Tryf.zeroValue95 }
open Go.RowKit Go.Lib in
theorem Tryf.strings_ContainsRune_ascii (s : ByteArray) (r : Int) (w : World) (h0 : 0 ≤ r) (h1 : r < 128) :
    Calls Tryf.prog 56 #[.string s, .int .i32 r] w fun e w' => e = .returned (.bool (decide (0 ≤ Lib.indexByte s.data.toList r.toNat.toUInt8))) ∧ w' = w := Any.strings_ContainsRune_ascii Tryf.lays151 s r w h0 h1
end Go.Proofs
