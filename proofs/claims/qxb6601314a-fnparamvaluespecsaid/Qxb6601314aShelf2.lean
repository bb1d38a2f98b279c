/-
  The library's contracts (strings.IndexAny's long road, IndexRune at an ASCII rune, IndexByte) laid at this program, in plain words.
-/
import Derived.Shelf.Strings.Search1
import Derived.Shelf.Small.Strs
import Derived.Shelf.Strings.IndexAnyAll
import Derived.Test.Qxb6601314aProg
namespace Go.Proofs
open Go.Shelf
def Try.lays153_ren : Go.Shelf.Ren := ⟨fun | 153 => 13 | 152 => 17 | 226 => 18 | 227 => 19 | 228 => 20 | 137 => 22 | 119 => 23 | 224 => 24 | 225 => 25 | 217 => 27 | 266 => 28 | n => n, fun | 9 => 9 | 3 => 3 | 4 => 4 | 5 => 5 | 21 => 21 | 117 => 42 | 116 => 41 | 0 => 0 | 46 => 48 | 124 => 49 | n => n, fun | n => n⟩
theorem Try.lays153 : Go.Proofs.Lays.n153 Try.prog Try.lays153_ren := {
  mixed := by kernel_rfl
  f119 := Try.func23.trans (congrArg some (by kernel_rfl))
  f137 := Try.func22.trans (congrArg some (by kernel_rfl))
  f152 := Try.func17.trans (congrArg some (by kernel_rfl))
  f153 := Try.func13.trans (congrArg some (by kernel_rfl))
  f217 := Try.func27.trans (congrArg some (by kernel_rfl))
  f224 := Try.func24.trans (congrArg some (by kernel_rfl))
  f225 := Try.func25.trans (congrArg some (by kernel_rfl))
  f226 := Try.func18.trans (congrArg some (by kernel_rfl))
  f227 := Try.func19.trans (congrArg some (by kernel_rfl))
  f228 := Try.func20.trans (congrArg some (by kernel_rfl))
  f266 := Try.func28.trans (congrArg some (by kernel_rfl))
  t0 := Try.underlying0
  a0 := Try.isAgg0
  z0 := Try.sizeOf0
  v0 := Try.zeroValue0
  t3 := Try.underlying3
  a3 := Try.isAgg3
  z3 := Try.sizeOf3
  v3 := Try.zeroValue3
  t4 := Try.underlying4
  a4 := Try.isAgg4
  z4 := Try.sizeOf4
  v4 := Try.zeroValue4
  t5 := Try.underlying5
  a5 := Try.isAgg5
  z5 := Try.sizeOf5
  v5 := Try.zeroValue5
  t9 := Try.underlying9
  a9 := Try.isAgg9
  z9 := Try.sizeOf9
  v9 := Try.zeroValue9
  t21 := Try.underlying21
  a21 := Try.isAgg21
  z21 := Try.sizeOf21
  v21 := Try.zeroValue21
  t46 := Try.underlying48
  a46 := Try.isAgg48
  z46 := Try.sizeOf48
  v46 := Try.zeroValue48
  t116 := Try.underlying41
  a116 := Try.isAgg41
  z116 := Try.sizeOf41
  t117 := Try.underlying42
  a117 := Try.isAgg42
  z117 := Try.sizeOf42
  v117 := Try.zeroValue42
  t124 := Try.underlying49
  a124 := Try.isAgg49
  z124 := Try.sizeOf49
  v124 := Try.zeroValue49 }
open Go.RowKit Go.Lib in
theorem Try.strings_IndexAny_long (s chars : ByteArray) (w : World) (h2 : 2 ≤ chars.size) (h8 : 8 < s.size) (hs : s.size < 4294967281) (hcs : chars.size < 4294967281)
    (hascii : ∀ (j : Nat) b, chars.data.toList[j]? = some b → b.toNat < 128) :
    Calls Try.prog 13 #[.string s, .string chars] w fun e w' => e = .returned (.int .i64 (Lib.indexAny s.data.toList chars.data.toList)) ∧ w' = ((w.alloc (.cells (Lib.setCells chars.data.toList) 41)).alloc (.cells (Lib.setCells chars.data.toList) 41)) :=
  Any.strings_IndexAny_long Try.lays153 (by intro w; kernel_rfl) (by kernel_rfl) s chars w h2 h8 hs hcs hascii
open Go.RowKit Go.Lib in
theorem Try.strings_IndexRune_ascii (s : ByteArray) (r : Int) (w : World) (h0 : 0 ≤ r) (h1 : r < 128) :
    Calls Try.prog 17 #[.string s, .int .i32 r] w fun e w' => e = .returned (.int .i64 (Lib.indexByte s.data.toList r.toNat.toUInt8)) ∧ w' = w :=
  Any.strings_IndexRune_ascii { Try.lays153 with } s r w h0 h1
def Try.lays137_ren : Go.Shelf.Ren := ⟨fun | 137 => 22 | 217 => 27 | 266 => 28 | n => n, fun | 9 => 9 | 5 => 5 | 3 => 3 | n => n, fun | n => n⟩
theorem Try.lays137 : Go.Proofs.Lays.n137 Try.prog Try.lays137_ren := {
  mixed := by kernel_rfl
  f137 := Try.func22.trans (congrArg some (by kernel_rfl))
  f217 := Try.func27.trans (congrArg some (by kernel_rfl))
  f266 := Try.func28.trans (congrArg some (by kernel_rfl))
  t3 := Try.underlying3
  a3 := Try.isAgg3
  z3 := Try.sizeOf3
  v3 := Try.zeroValue3
  t5 := Try.underlying5
  a5 := Try.isAgg5
  z5 := Try.sizeOf5
  v5 := Try.zeroValue5
  t9 := Try.underlying9
  a9 := Try.isAgg9
  z9 := Try.sizeOf9
  v9 := Try.zeroValue9 }
open Go.RowKit in
theorem Try.strings_IndexByte (s : ByteArray) (c : Int) (w : World) :
    Calls Try.prog 22 #[.string s, .int .u8 c] w fun e w' => e = .returned (.int .i64 (Lib.indexByte s.data.toList c.toNat.toUInt8)) ∧ w' = w := Any.strings_IndexByte Try.lays137 s c w
end Go.Proofs
