/- The shelf's contracts at this dump, as its tools lay them. -/
import Derived.Shelf.Small.Utf8
import Derived.Shelf.Small.Strs
import Derived.Ground.MnProg
import Derived.Shelf.Bin.PutUvarint
import Derived.Shelf.Strings.Search1
import Derived.Shelf.Strings.Runes
import Derived.Shelf.Strings.IndexAny
import Derived.Shelf.Strings.AsciiSet
import Derived.Shelf.Strings.IndexAnyAll
import Derived.Test.Qxb6616082aFmtProg
namespace Go.Proofs
open Go.Shelf
def Tryf.lays119_ren : Go.Shelf.Ren := ⟨fun | 119 => 70 | n => n, fun | 21 => 21 | 4 => 4 | n => n, fun | n => n⟩
theorem Tryf.lays119 : Go.Proofs.Lays.n119 Tryf.prog Tryf.lays119_ren := {
  mixed := by kernel_rfl
  f119 := Tryf.func70.trans (congrArg some (by kernel_rfl))
  t4 := Tryf.underlying4
  a4 := Tryf.isAgg4
  z4 := Tryf.sizeOf4
  v4 := Tryf.zeroValue4
  t21 := Tryf.underlying21
  a21 := Tryf.isAgg21
  z21 := Tryf.sizeOf21
  v21 := Tryf.zeroValue21 }
theorem Tryf.utf8_ValidRune (r : Int) (w : World) :
    Calls Tryf.prog 70 #[.int .i32 r] w fun e w' => e = .returned (.bool (Lib.validRune r)) ∧ w' = w := Any.utf8_ValidRune Tryf.lays119 r w
def Tryf.lays137_ren : Go.Shelf.Ren := ⟨fun | 137 => 69 | 217 => 79 | 266 => 81 | n => n, fun | 9 => 9 | 5 => 5 | 3 => 3 | n => n, fun | n => n⟩
theorem Tryf.lays137 : Go.Proofs.Lays.n137 Tryf.prog Tryf.lays137_ren := {
  mixed := by kernel_rfl
  f137 := Tryf.func69.trans (congrArg some (by kernel_rfl))
  f217 := Tryf.func79.trans (congrArg some (by kernel_rfl))
  f266 := Tryf.func81.trans (congrArg some (by kernel_rfl))
  t3 := Tryf.underlying3
  a3 := Tryf.isAgg3
  z3 := Tryf.sizeOf3
  v3 := Tryf.zeroValue3
  t5 := Tryf.underlying5
  a5 := Tryf.isAgg5
  z5 := Tryf.sizeOf5
  v5 := Tryf.zeroValue5
  t9 := Tryf.underlying9
  a9 := Tryf.isAgg9
  z9 := Tryf.sizeOf9
  v9 := Tryf.zeroValue9 }
open Go.RowKit in
theorem Tryf.strings_IndexByte (s : ByteArray) (c : Int) (w : World) :
    Calls Tryf.prog 69 #[.string s, .int .u8 c] w fun e w' => e = .returned (.int .i64 (Lib.indexByte s.data.toList c.toNat.toUInt8)) ∧ w' = w := Any.strings_IndexByte Tryf.lays137 s c w
def Tryf.laysBin46_ren : Go.Shelf.Ren := ⟨fun | 46 => 58 | n => n, fun | 22 => 87 | 33 => 51 | 3 => 3 | 4 => 4 | 5 => 5 | 0 => 0 | 45 => 73 | n => n, fun | n => n⟩
theorem Tryf.laysBin46 : Go.Proofs.LaysBin.n46 Tryf.prog Tryf.laysBin46_ren := {
  mixed := by kernel_rfl
  f46 := Tryf.func58.trans (congrArg some (by kernel_rfl))
  t0 := Tryf.underlying0
  a0 := Tryf.isAgg0
  z0 := Tryf.sizeOf0
  v0 := Tryf.zeroValue0
  i0 := by kernel_rfl
  t3 := Tryf.underlying3
  a3 := Tryf.isAgg3
  z3 := Tryf.sizeOf3
  v3 := Tryf.zeroValue3
  i3 := by kernel_rfl
  t4 := Tryf.underlying4
  a4 := Tryf.isAgg4
  z4 := Tryf.sizeOf4
  v4 := Tryf.zeroValue4
  i4 := by kernel_rfl
  t5 := Tryf.underlying5
  a5 := Tryf.isAgg5
  z5 := Tryf.sizeOf5
  v5 := Tryf.zeroValue5
  i5 := by kernel_rfl
  t22 := Tryf.underlying87
  a22 := Tryf.isAgg87
  z22 := Tryf.sizeOf87
  v22 := Tryf.zeroValue87
  i22 := by kernel_rfl
  t33 := Tryf.underlying51
  a33 := Tryf.isAgg51
  z33 := Tryf.sizeOf51
  v33 := Tryf.zeroValue51
  i33 := by kernel_rfl
  t45 := Tryf.underlying73
  a45 := Tryf.isAgg73
  z45 := Tryf.sizeOf73
  v45 := Tryf.zeroValue73
  i45 := by kernel_rfl }
open Go.RowKit in
theorem Tryf.binary_PutUvarint (g o n c x : Nat) (hx : x < 18446744073709551616) (w : World) (hn : (Lib.uvarint x).length ≤ n) (hcell : ∀ j, j < (Lib.uvarint x).length → (w.cell? ⟨g, o + j, none⟩).isSome = true ∧ w.frozen? ⟨g, o + j, none⟩ = false) :
    Calls Tryf.prog 58 #[.slice (some ⟨g, o, none⟩) n c, .int .u64 x] w fun e w' => e = .returned (.int .i64 (Lib.uvarint x).length) ∧ w' = w.setCells g o (Lib.byteCells (Lib.uvarint x)) := Any.binary_PutUvarint Tryf.laysBin46 g o n c x hx w hn hcell
def Tryf.lays217_ren : Go.Shelf.Ren := ⟨fun | 217 => 79 | 266 => 81 | n => n, fun | 9 => 9 | 5 => 5 | 3 => 3 | n => n, fun | n => n⟩
theorem Tryf.lays217 : Go.Proofs.Lays.n217 Tryf.prog Tryf.lays217_ren := {
  mixed := by kernel_rfl
  f217 := Tryf.func79.trans (congrArg some (by kernel_rfl))
  f266 := Tryf.func81.trans (congrArg some (by kernel_rfl))
  t3 := Tryf.underlying3
  a3 := Tryf.isAgg3
  z3 := Tryf.sizeOf3
  v3 := Tryf.zeroValue3
  t5 := Tryf.underlying5
  a5 := Tryf.isAgg5
  z5 := Tryf.sizeOf5
  v5 := Tryf.zeroValue5
  t9 := Tryf.underlying9
  a9 := Tryf.isAgg9
  z9 := Tryf.sizeOf9
  v9 := Tryf.zeroValue9 }
open Go.RowKit Go.Lib in
theorem Tryf.stringslite_IndexByte (s : ByteArray) (c : Int) (w : World) :
    Calls Tryf.prog 79 #[.string s, .int .u8 c] w fun e w' => e = .returned (.int .i64 (Lib.indexByte s.data.toList c.toNat.toUInt8)) ∧ w' = w := Any.stringslite_IndexByte Tryf.lays217 s c w
def Tryf.lays224_ren : Go.Shelf.Ren := ⟨fun | 224 => 71 | n => n, fun | 3 => 3 | n => n, fun | n => n⟩
theorem Tryf.lays224 : Go.Proofs.Lays.n224 Tryf.prog Tryf.lays224_ren := {
  mixed := by kernel_rfl
  f224 := Tryf.func71.trans (congrArg some (by kernel_rfl))
  t3 := Tryf.underlying3
  a3 := Tryf.isAgg3
  z3 := Tryf.sizeOf3
  v3 := Tryf.zeroValue3 }
open Go.RowKit Go.Lib in
theorem Tryf.bytealg_Cutover (n : Int) (h0 : 0 ≤ n) (h1 : n < 4611686018427387904) (w : World) :
    Calls Tryf.prog 71 #[.int .i64 n] w fun e w' => e = .returned (.int .i64 ((n + 16) / 8)) ∧ w' = w := Any.bytealg_Cutover Tryf.lays224 n h0 h1 w
def Tryf.lays152_ren : Go.Shelf.Ren := ⟨fun | 152 => 54 | 137 => 69 | 119 => 70 | 224 => 71 | 225 => 72 | 217 => 79 | 266 => 81 | n => n, fun | 9 => 9 | 21 => 21 | 3 => 3 | 4 => 4 | 5 => 5 | 0 => 0 | 46 => 73 | n => n, fun | n => n⟩
theorem Tryf.lays152 : Go.Proofs.Lays.n152 Tryf.prog Tryf.lays152_ren := {
  mixed := by kernel_rfl
  f119 := Tryf.func70.trans (congrArg some (by kernel_rfl))
  f137 := Tryf.func69.trans (congrArg some (by kernel_rfl))
  f152 := Tryf.func54.trans (congrArg some (by kernel_rfl))
  f217 := Tryf.func79.trans (congrArg some (by kernel_rfl))
  f224 := Tryf.func71.trans (congrArg some (by kernel_rfl))
  f225 := Tryf.func72.trans (congrArg some (by kernel_rfl))
  f266 := Tryf.func81.trans (congrArg some (by kernel_rfl))
  t0 := Tryf.underlying0
  a0 := Tryf.isAgg0
  z0 := Tryf.sizeOf0
  v0 := Tryf.zeroValue0
  t3 := Tryf.underlying3
  a3 := Tryf.isAgg3
  z3 := Tryf.sizeOf3
  v3 := Tryf.zeroValue3
  t4 := Tryf.underlying4
  a4 := Tryf.isAgg4
  z4 := Tryf.sizeOf4
  v4 := Tryf.zeroValue4
  t5 := Tryf.underlying5
  a5 := Tryf.isAgg5
  z5 := Tryf.sizeOf5
  v5 := Tryf.zeroValue5
  t9 := Tryf.underlying9
  a9 := Tryf.isAgg9
  z9 := Tryf.sizeOf9
  v9 := Tryf.zeroValue9
  t21 := Tryf.underlying21
  a21 := Tryf.isAgg21
  z21 := Tryf.sizeOf21
  v21 := Tryf.zeroValue21
  t46 := Tryf.underlying73
  a46 := Tryf.isAgg73
  z46 := Tryf.sizeOf73
  v46 := Tryf.zeroValue73 }
open Go.RowKit Go.Lib in
theorem Tryf.strings_IndexRune_ascii (s : ByteArray) (r : Int) (w : World) (h0 : 0 ≤ r) (h1 : r < 128) :
    Calls Tryf.prog 54 #[.string s, .int .i32 r] w fun e w' => e = .returned (.int .i64 (Lib.indexByte s.data.toList r.toNat.toUInt8)) ∧ w' = w := Any.strings_IndexRune_ascii Tryf.lays152 s r w h0 h1
def Tryf.lays226_ren : Go.Shelf.Ren := ⟨fun | 226 => 55 | n => n, fun | 3 => 3 | 4 => 4 | n => n, fun | n => n⟩
theorem Tryf.lays226 : Go.Proofs.Lays.n226 Tryf.prog Tryf.lays226_ren := {
  mixed := by kernel_rfl
  f226 := Tryf.func55.trans (congrArg some (by kernel_rfl))
  t3 := Tryf.underlying3
  a3 := Tryf.isAgg3
  z3 := Tryf.sizeOf3
  v3 := Tryf.zeroValue3
  t4 := Tryf.underlying4
  a4 := Tryf.isAgg4
  z4 := Tryf.sizeOf4
  v4 := Tryf.zeroValue4 }
open Go.RowKit Go.Lib in
theorem Tryf.strings_shouldUseASCIISet (n : Int) (w : World) :
    Calls Tryf.prog 55 #[.int .i64 n] w fun e w' => e = .returned (.bool (decide (8 < n))) ∧ w' = w := Any.strings_shouldUseASCIISet Tryf.lays226 n w
def Tryf.lays153_ren : Go.Shelf.Ren := ⟨fun | 153 => 43 | 152 => 54 | 226 => 55 | 227 => 56 | 228 => 57 | 137 => 69 | 119 => 70 | 224 => 71 | 225 => 72 | 217 => 79 | 266 => 81 | n => n, fun | 9 => 9 | 3 => 3 | 4 => 4 | 5 => 5 | 21 => 21 | 117 => 94 | 116 => 93 | 0 => 0 | 46 => 73 | 124 => 113 | n => n, fun | n => n⟩
theorem Tryf.lays153 : Go.Proofs.Lays.n153 Tryf.prog Tryf.lays153_ren := {
  mixed := by kernel_rfl
  f119 := Tryf.func70.trans (congrArg some (by kernel_rfl))
  f137 := Tryf.func69.trans (congrArg some (by kernel_rfl))
  f152 := Tryf.func54.trans (congrArg some (by kernel_rfl))
  f153 := Tryf.func43.trans (congrArg some (by kernel_rfl))
  f217 := Tryf.func79.trans (congrArg some (by kernel_rfl))
  f224 := Tryf.func71.trans (congrArg some (by kernel_rfl))
  f225 := Tryf.func72.trans (congrArg some (by kernel_rfl))
  f226 := Tryf.func55.trans (congrArg some (by kernel_rfl))
  f227 := Tryf.func56.trans (congrArg some (by kernel_rfl))
  f228 := Tryf.func57.trans (congrArg some (by kernel_rfl))
  f266 := Tryf.func81.trans (congrArg some (by kernel_rfl))
  t0 := Tryf.underlying0
  a0 := Tryf.isAgg0
  z0 := Tryf.sizeOf0
  v0 := Tryf.zeroValue0
  t3 := Tryf.underlying3
  a3 := Tryf.isAgg3
  z3 := Tryf.sizeOf3
  v3 := Tryf.zeroValue3
  t4 := Tryf.underlying4
  a4 := Tryf.isAgg4
  z4 := Tryf.sizeOf4
  v4 := Tryf.zeroValue4
  t5 := Tryf.underlying5
  a5 := Tryf.isAgg5
  z5 := Tryf.sizeOf5
  v5 := Tryf.zeroValue5
  t9 := Tryf.underlying9
  a9 := Tryf.isAgg9
  z9 := Tryf.sizeOf9
  v9 := Tryf.zeroValue9
  t21 := Tryf.underlying21
  a21 := Tryf.isAgg21
  z21 := Tryf.sizeOf21
  v21 := Tryf.zeroValue21
  t46 := Tryf.underlying73
  a46 := Tryf.isAgg73
  z46 := Tryf.sizeOf73
  v46 := Tryf.zeroValue73
  t116 := Tryf.underlying93
  a116 := Tryf.isAgg93
  z116 := Tryf.sizeOf93
  t117 := Tryf.underlying94
  a117 := Tryf.isAgg94
  z117 := Tryf.sizeOf94
  v117 := Tryf.zeroValue94
  t124 := Tryf.underlying113
  a124 := Tryf.isAgg113
  z124 := Tryf.sizeOf113
  v124 := Tryf.zeroValue113 }
open Go.RowKit Go.Lib in
theorem Tryf.strings_IndexAny_none (s chars : ByteArray) (w : World) (h0 : chars.size = 0) :
    Calls Tryf.prog 43 #[.string s, .string chars] w fun e w' => e = .returned (.int .i64 (Lib.indexAny s.data.toList chars.data.toList)) ∧ w' = w := Any.strings_IndexAny_none Tryf.lays153 s chars w h0
open Go.RowKit Go.Lib in
theorem Tryf.strings_IndexAny_one (s chars : ByteArray) (w : World) (h1 : chars.size = 1) (hascii : ∀ (j : Nat) b, chars.data.toList[j]? = some b → b.toNat < 128) :
    Calls Tryf.prog 43 #[.string s, .string chars] w fun e w' => e = .returned (.int .i64 (Lib.indexAny s.data.toList chars.data.toList)) ∧ w' = w := Any.strings_IndexAny_one Tryf.lays153 s chars w h1 hascii
open Go.RowKit Go.Lib in
theorem Tryf.strings_IndexAny_short (s chars : ByteArray) (w : World) (h2 : 2 ≤ chars.size) (h8 : s.size ≤ 8) (hascii : ∀ (j : Nat) b, s.data.toList[j]? = some b → b.toNat < 128) :
    Calls Tryf.prog 43 #[.string s, .string chars] w fun e w' => e = .returned (.int .i64 (Lib.indexAny s.data.toList chars.data.toList)) ∧ ∃ pos, w' = w.iter s pos := Any.strings_IndexAny_short Tryf.lays153 s chars w h2 h8 hascii
def Tryf.lays227_ren : Go.Shelf.Ren := ⟨fun | 227 => 56 | n => n, fun | 9 => 9 | 116 => 93 | 4 => 4 | 0 => 0 | 3 => 3 | 5 => 5 | n => n, fun | n => n⟩
theorem Tryf.lays227 : Go.Proofs.Lays.n227 Tryf.prog Tryf.lays227_ren := {
  mixed := by kernel_rfl
  f227 := Tryf.func56.trans (congrArg some (by kernel_rfl))
  t0 := Tryf.underlying0
  a0 := Tryf.isAgg0
  z0 := Tryf.sizeOf0
  v0 := Tryf.zeroValue0
  t3 := Tryf.underlying3
  a3 := Tryf.isAgg3
  z3 := Tryf.sizeOf3
  v3 := Tryf.zeroValue3
  t4 := Tryf.underlying4
  a4 := Tryf.isAgg4
  z4 := Tryf.sizeOf4
  v4 := Tryf.zeroValue4
  t5 := Tryf.underlying5
  a5 := Tryf.isAgg5
  z5 := Tryf.sizeOf5
  v5 := Tryf.zeroValue5
  t9 := Tryf.underlying9
  a9 := Tryf.isAgg9
  z9 := Tryf.sizeOf9
  v9 := Tryf.zeroValue9
  t116 := Tryf.underlying93
  a116 := Tryf.isAgg93
  z116 := Tryf.sizeOf93 }
open Go.RowKit Go.Lib in
theorem Tryf.strings_makeASCIISet (hv116 : ∀ w, (zeroValue 93).run Tryf.prog w = .ok (.agg (Array.replicate 256 (.bool false))) w) (chars : ByteArray) (w : World) (hs : chars.size < 4294967281) (hascii : ∀ (j : Nat) b, chars.data.toList[j]? = some b → b.toNat < 128) :
    Calls Tryf.prog 56 #[.string chars] w fun e w' => e = .returned (.tuple #[.agg (Lib.setCells chars.data.toList), .bool true]) ∧ w' = w.alloc (.cells (Lib.setCells chars.data.toList) 93) := Any.strings_makeASCIISet Tryf.lays227 hv116 (by kernel_rfl) chars w hs hascii
def Tryf.lays228_ren : Go.Shelf.Ren := ⟨fun | 228 => 57 | n => n, fun | 124 => 113 | 5 => 5 | 4 => 4 | 0 => 0 | 116 => 93 | n => n, fun | n => n⟩
theorem Tryf.lays228 : Go.Proofs.Lays.n228 Tryf.prog Tryf.lays228_ren := {
  mixed := by kernel_rfl
  f228 := Tryf.func57.trans (congrArg some (by kernel_rfl))
  t0 := Tryf.underlying0
  a0 := Tryf.isAgg0
  z0 := Tryf.sizeOf0
  v0 := Tryf.zeroValue0
  t4 := Tryf.underlying4
  a4 := Tryf.isAgg4
  z4 := Tryf.sizeOf4
  v4 := Tryf.zeroValue4
  t5 := Tryf.underlying5
  a5 := Tryf.isAgg5
  z5 := Tryf.sizeOf5
  v5 := Tryf.zeroValue5
  t116 := Tryf.underlying93
  a116 := Tryf.isAgg93
  z116 := Tryf.sizeOf93
  t124 := Tryf.underlying113
  a124 := Tryf.isAgg113
  z124 := Tryf.sizeOf113
  v124 := Tryf.zeroValue113 }
open Go.RowKit Go.Lib in
theorem Tryf.asciiSet_contains (b : Nat) (x : UInt8) (v : Bool) (w : World) (hc : w.cell? ⟨b, x.toNat, none⟩ = some (.bool v)) :
    Calls Tryf.prog 57 #[.pointer (some ⟨b, 0, none⟩), .int .u8 x.toNat] w fun e w' => e = .returned (.bool v) ∧ w' = w := Any.asciiSet_contains Tryf.lays228 b x v w hc
open Go.RowKit Go.Lib in
theorem Tryf.strings_IndexAny_long (hv116 : ∀ w, (zeroValue 93).run Tryf.prog w = .ok (.agg (Array.replicate 256 (.bool false))) w) (s chars : ByteArray) (w : World) (h2 : 2 ≤ chars.size) (h8 : 8 < s.size) (hs : s.size < 4294967281) (hcs : chars.size < 4294967281) (hascii : ∀ (j : Nat) b, chars.data.toList[j]? = some b → b.toNat < 128) :
    Calls Tryf.prog 43 #[.string s, .string chars] w fun e w' => e = .returned (.int .i64 (Lib.indexAny s.data.toList chars.data.toList)) ∧ w' = ((w.alloc (.cells (Lib.setCells chars.data.toList) 93)).alloc (.cells (Lib.setCells chars.data.toList) 93)) := Any.strings_IndexAny_long Tryf.lays153 hv116 (by kernel_rfl) s chars w h2 h8 hs hcs hascii
open Go.RowKit Go.Lib in
theorem Tryf.strings_IndexAny (hv116 : ∀ w, (zeroValue 93).run Tryf.prog w = .ok (.agg (Array.replicate 256 (.bool false))) w) (s chars : ByteArray) (w : World) (hs : s.size < 4294967281) (hcs : chars.size < 4294967281) (has : ∀ (j : Nat) b, s.data.toList[j]? = some b → b.toNat < 128) (hac : ∀ (j : Nat) b, chars.data.toList[j]? = some b → b.toNat < 128) :
    Calls Tryf.prog 43 #[.string s, .string chars] w fun e w' => e = .returned (.int .i64 (Lib.indexAny s.data.toList chars.data.toList)) ∧ Below w.heap.size w w' := Any.strings_IndexAny Tryf.lays153 hv116 (by kernel_rfl) s chars w hs hcs has hac
def Tryf.lays150_ren : Go.Shelf.Ren := ⟨fun | 150 => 35 | 153 => 43 | 152 => 54 | 226 => 55 | 227 => 56 | 228 => 57 | 137 => 69 | 119 => 70 | 224 => 71 | 225 => 72 | 217 => 79 | 266 => 81 | n => n, fun | 9 => 9 | 4 => 4 | 3 => 3 | 5 => 5 | 21 => 21 | 117 => 94 | 116 => 93 | 0 => 0 | 46 => 73 | 124 => 113 | n => n, fun | n => n⟩
theorem Tryf.lays150 : Go.Proofs.Lays.n150 Tryf.prog Tryf.lays150_ren := {
  mixed := by kernel_rfl
  f119 := Tryf.func70.trans (congrArg some (by kernel_rfl))
  f137 := Tryf.func69.trans (congrArg some (by kernel_rfl))
  f150 := Tryf.func35.trans (congrArg some (by kernel_rfl))
  f152 := Tryf.func54.trans (congrArg some (by kernel_rfl))
  f153 := Tryf.func43.trans (congrArg some (by kernel_rfl))
  f217 := Tryf.func79.trans (congrArg some (by kernel_rfl))
  f224 := Tryf.func71.trans (congrArg some (by kernel_rfl))
  f225 := Tryf.func72.trans (congrArg some (by kernel_rfl))
  f226 := Tryf.func55.trans (congrArg some (by kernel_rfl))
  f227 := Tryf.func56.trans (congrArg some (by kernel_rfl))
  f228 := Tryf.func57.trans (congrArg some (by kernel_rfl))
  f266 := Tryf.func81.trans (congrArg some (by kernel_rfl))
  t0 := Tryf.underlying0
  a0 := Tryf.isAgg0
  z0 := Tryf.sizeOf0
  v0 := Tryf.zeroValue0
  t3 := Tryf.underlying3
  a3 := Tryf.isAgg3
  z3 := Tryf.sizeOf3
  v3 := Tryf.zeroValue3
  t4 := Tryf.underlying4
  a4 := Tryf.isAgg4
  z4 := Tryf.sizeOf4
  v4 := Tryf.zeroValue4
  t5 := Tryf.underlying5
  a5 := Tryf.isAgg5
  z5 := Tryf.sizeOf5
  v5 := Tryf.zeroValue5
  t9 := Tryf.underlying9
  a9 := Tryf.isAgg9
  z9 := Tryf.sizeOf9
  v9 := Tryf.zeroValue9
  t21 := Tryf.underlying21
  a21 := Tryf.isAgg21
  z21 := Tryf.sizeOf21
  v21 := Tryf.zeroValue21
  t46 := Tryf.underlying73
  a46 := Tryf.isAgg73
  z46 := Tryf.sizeOf73
  v46 := Tryf.zeroValue73
  t116 := Tryf.underlying93
  a116 := Tryf.isAgg93
  z116 := Tryf.sizeOf93
  t117 := Tryf.underlying94
  a117 := Tryf.isAgg94
  z117 := Tryf.sizeOf94
  v117 := Tryf.zeroValue94
  t124 := Tryf.underlying113
  a124 := Tryf.isAgg113
  z124 := Tryf.sizeOf113
  v124 := Tryf.zeroValue113 }
open Go.RowKit Go.Lib in
theorem Tryf.strings_ContainsAny (hv116 : ∀ w, (zeroValue 93).run Tryf.prog w = .ok (.agg (Array.replicate 256 (.bool false))) w) (s chars : ByteArray) (w : World) (hs : s.size < 4294967281) (hcs : chars.size < 4294967281) (has : ∀ (j : Nat) b, s.data.toList[j]? = some b → b.toNat < 128) (hac : ∀ (j : Nat) b, chars.data.toList[j]? = some b → b.toNat < 128) :
    Calls Tryf.prog 35 #[.string s, .string chars] w fun e w' => e = .returned (.bool (Lib.containsAny s.data.toList chars.data.toList)) ∧ Below w.heap.size w w' := Any.strings_ContainsAny Tryf.lays150 hv116 (by kernel_rfl) s chars w hs hcs has hac
open Go.RowKit Go.Lib in
theorem Tryf.strings_IndexAny_laid (s chars : ByteArray) (w : World) (hs : s.size < 4294967281) (hcs : chars.size < 4294967281) (has : ∀ (j : Nat) b, s.data.toList[j]? = some b → b.toNat < 128) (hac : ∀ (j : Nat) b, chars.data.toList[j]? = some b → b.toNat < 128) :
    Calls Tryf.prog 43 #[.string s, .string chars] w fun e w' => e = .returned (.int .i64 (Lib.indexAny s.data.toList chars.data.toList)) ∧ Below w.heap.size w w' := Any.strings_IndexAny_laid Tryf.lays153 (by kernel_rfl) s chars w hs hcs has hac
open Go.RowKit Go.Lib in
theorem Tryf.strings_ContainsAny_laid (s chars : ByteArray) (w : World) (hs : s.size < 4294967281) (hcs : chars.size < 4294967281) (has : ∀ (j : Nat) b, s.data.toList[j]? = some b → b.toNat < 128) (hac : ∀ (j : Nat) b, chars.data.toList[j]? = some b → b.toNat < 128) :
    Calls Tryf.prog 35 #[.string s, .string chars] w fun e w' => e = .returned (.bool (Lib.containsAny s.data.toList chars.data.toList)) ∧ Below w.heap.size w w' := Any.strings_ContainsAny_laid Tryf.lays150 (by kernel_rfl) s chars w hs hcs has hac
end Go.Proofs
