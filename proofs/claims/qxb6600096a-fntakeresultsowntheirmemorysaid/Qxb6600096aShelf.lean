/-
  The library's contracts (strings.Builder, slices.Clone), laid at this program: the kit's own layings in plain words; WriteByte's laid by hand.
-/
import Derived.Shelf.Strings.Builder1
import Derived.Shelf.Strings.Builder2
import Derived.Ground.Names2Prog
import Derived.Shelf.Slices.Clone
import Derived.Test.Qxb6600096aProg
namespace Go.Proofs
open Go.Shelf
def Try.lays169_ren : Go.Shelf.Ren := ⟨fun | 169 => 39 | n => n, fun | 70 => 66 | 9 => 9 | 0 => 0 | 72 => 68 | 37 => 33 | 127 => 78 | 3 => 3 | 5 => 5 | n => n, fun | n => n⟩
theorem Try.lays169 : Go.Proofs.Lays.n169 Try.prog Try.lays169_ren := {
  mixed := by kernel_rfl
  f169 := Try.func39.trans (congrArg some (by kernel_rfl))
  t0 := Try.underlying0
  a0 := Try.isAgg0
  z0 := Try.sizeOf0
  v0 := Try.zeroValue0
  t3 := Try.underlying3
  a3 := Try.isAgg3
  z3 := Try.sizeOf3
  v3 := Try.zeroValue3
  t9 := Try.underlying9
  a9 := Try.isAgg9
  z9 := Try.sizeOf9
  v9 := Try.zeroValue9
  t37 := Try.underlying33
  a37 := Try.isAgg33
  z37 := Try.sizeOf33
  v37 := Try.zeroValue33
  t70 := Try.underlying66
  a70 := Try.isAgg66
  z70 := Try.sizeOf66
  v70 := Try.zeroValue66
  t72 := Try.underlying68
  a72 := Try.isAgg68
  z72 := Try.sizeOf68
  v72 := Try.zeroValue68
  t127 := Try.underlying78
  a127 := Try.isAgg78
  z127 := Try.sizeOf78
  v127 := Try.zeroValue78 }
theorem Try.Builder_Extra_169 : Builder.Extra Try.prog Try.lays169_ren := {
  sizeBuilder := by kernel_rfl
  liesBuilder := by kernel_rfl
  t5 := Try.underlying5
  a5 := Try.isAgg5
  z5 := Try.sizeOf5
  v5 := Try.zeroValue5
  infoByte := by kernel_rfl
  cellsByte := by kernel_rfl
  sizeByte := by kernel_rfl
  neB5 := by decide }
open Go.RowKit in
theorem Try.Builder_String_any (B b : Nat) (l : List UInt8) (w : World) (h : Lib.IsBuilder 68 5 B b (Lib.byteCells l) w) (hBw : B ≤ w.heap.size) :
    Calls Try.prog 39 #[.pointer (some ⟨b, 0, none⟩)] w fun e w' => e = .returned (.string ⟨l.toArray⟩) ∧ Below B w w' := Any.Builder_String_any Try.lays169 Try.Builder_Extra_169 B b l w h hBw
def Try.lays165_ren : Go.Shelf.Ren := ⟨fun | 165 => 37 | 240 => 43 | 241 => 44 | 276 => 46 | 277 => 47 | n => n, fun | 70 => 66 | 3 => 3 | 0 => 0 | 4 => 4 | 9 => 9 | 20 => 20 | 72 => 68 | 37 => 33 | 164 => 79 | 5 => 5 | n => n, fun | n => n⟩
theorem Try.lays165 : Go.Proofs.Lays.n165 Try.prog Try.lays165_ren := {
  mixed := by kernel_rfl
  f165 := Try.func37.trans (congrArg some (by kernel_rfl))
  f240 := Try.func43.trans (congrArg some (by kernel_rfl))
  f241 := Try.func44.trans (congrArg some (by kernel_rfl))
  f276 := Try.func46.trans (congrArg some (by kernel_rfl))
  f277 := Try.func47.trans (congrArg some (by kernel_rfl))
  t0 := Try.underlying0
  a0 := Try.isAgg0
  z0 := Try.sizeOf0
  v0 := Try.zeroValue0
  t3 := Try.underlying3
  a3 := Try.isAgg3
  z3 := Try.sizeOf3
  v3 := Try.zeroValue3
  t4 := Try.underlying4
  a4 := Try.isAgg4
  z4 := Try.sizeOf4
  v4 := Try.zeroValue4
  t9 := Try.underlying9
  a9 := Try.isAgg9
  z9 := Try.sizeOf9
  v9 := Try.zeroValue9
  t20 := Try.underlying20
  a20 := Try.isAgg20
  z20 := Try.sizeOf20
  v20 := Try.zeroValue20
  t37 := Try.underlying33
  a37 := Try.isAgg33
  z37 := Try.sizeOf33
  v37 := Try.zeroValue33
  t70 := Try.underlying66
  a70 := Try.isAgg66
  z70 := Try.sizeOf66
  v70 := Try.zeroValue66
  t72 := Try.underlying68
  a72 := Try.isAgg68
  z72 := Try.sizeOf68
  v72 := Try.zeroValue68
  t164 := Try.underlying79
  a164 := Try.isAgg79
  z164 := Try.sizeOf79
  v164 := Try.zeroValue79 }
theorem Try.Builder_Extra_165 : Builder.Extra Try.prog Try.lays165_ren := {
  sizeBuilder := by kernel_rfl
  liesBuilder := by kernel_rfl
  t5 := Try.underlying5
  a5 := Try.isAgg5
  z5 := Try.sizeOf5
  v5 := Try.zeroValue5
  infoByte := by kernel_rfl
  cellsByte := by kernel_rfl
  sizeByte := by kernel_rfl
  neB5 := by decide }
open Go.RowKit in
theorem Try.Builder_Grow_fresh (B b n : Nat) (w : World) (hB : B ≤ b) (hbk : w.heap[b]? = some (.cells #[.pointer none, .slice none 0 0] 68 (0, 0))) (hBw : B ≤ w.heap.size) (hn : n ≤ 281474976710656) :
    Calls Try.prog 37 #[.pointer (some ⟨b, 0, none⟩), .int .i64 n] w fun e w' => e = .returned (.tuple #[]) ∧ (Lib.BuilderAt 68 5 B b (.pointer (some ⟨b, 0, none⟩)) [] w' ∧ Below B w w') := Any.Builder_Grow_fresh Try.lays165 Try.Builder_Extra_165 B b n w hB hbk hBw hn
def Try.laysNm215_ren : Go.Shelf.Ren := ⟨fun | 15 => 42 | n => n, fun | 22 => 49 | 3 => 3 | 4 => 4 | n => n, fun | n => n⟩
theorem Try.laysNm215 : Go.Proofs.Lays2.n15 Try.prog Try.laysNm215_ren := {
  mixed := by kernel_rfl
  f15 := Try.func42.trans (congrArg some (by kernel_rfl))
  t3 := Try.underlying3
  a3 := Try.isAgg3
  z3 := Try.sizeOf3
  v3 := Try.zeroValue3
  t4 := Try.underlying4
  a4 := Try.isAgg4
  z4 := Try.sizeOf4
  v4 := Try.zeroValue4
  t22 := Try.underlying49
  a22 := Try.isAgg49
  z22 := Try.sizeOf49
  v22 := Try.zeroValue49
  i3 := by kernel_rfl }
open Go.RowKit Go.Lib in
theorem Try.slices_Clone_int (b off n c : Nat) (zs : List Int) (w : World) (hz : n ≤ zs.length) (hbig : n * 8 ≤ 140737488355328) (hc : ∀ j, j < zs.length → w.cell? ⟨b, off + j, none⟩ = some (.int .i64 (zs.getD j 0))) :
    Calls Try.prog 42 #[.slice (some ⟨b, off, none⟩) n c] w fun e w' => ∃ v', e = .returned v' ∧ w'.ownsRow w.heap.size 3 1 v' n ((zs.take n).map (Value.int .i64)) ∧ v' ≠ .slice none 0 0 ∧ Below w.heap.size w w' := Any.slices_Clone_int Try.laysNm215 b off n c zs w hz hbig hc
open Go.RowKit Go.Lib in
theorem Try.slices_Clone_int_nil (n c : Nat) (w : World) :
    Calls Try.prog 42 #[.slice none n c] w fun e w' => e = .returned (.slice none 0 0) ∧ w' = w := Any.slices_Clone_int_nil Try.laysNm215 n c w
open Go.RowKit Go.Lib in
theorem Try.slices_Clone_int_zero (a : Addr) (c : Nat) (w : World) :
    Calls Try.prog 42 #[.slice (some a) 0 c] w fun e w' => ∃ v', e = .returned v' ∧ w'.ownsRow w.heap.size 3 1 v' 0 [] ∧ v' ≠ .slice none 0 0 ∧ Below w.heap.size w w' := Any.slices_Clone_int_zero Try.laysNm215 a c w
def Try.lays167_ren : Go.Shelf.Ren := ⟨fun | 167 => 38 | 240 => 43 | 276 => 46 | n => n, fun | 0 => 0 | 4 => 4 | 5 => 5 | 9 => 9 | 20 => 20 | 37 => 33 | 70 => 66 | 72 => 68 | 75 => 71 | 80 => 73 | 164 => 79 | n => n, fun | n => n⟩
theorem Try.lays167 : Go.Proofs.Lays.n167 Try.prog Try.lays167_ren := {
  mixed := by kernel_rfl
  f167 := Try.func38.trans (congrArg some (by kernel_rfl))
  f240 := Try.func43.trans (congrArg some (by kernel_rfl))
  f276 := Try.func46.trans (congrArg some (by kernel_rfl))
  t0 := Try.underlying0
  a0 := Try.isAgg0
  z0 := Try.sizeOf0
  v0 := Try.zeroValue0
  t4 := Try.underlying4
  a4 := Try.isAgg4
  z4 := Try.sizeOf4
  v4 := Try.zeroValue4
  t5 := Try.underlying5
  a5 := Try.isAgg5
  z5 := Try.sizeOf5
  v5 := Try.zeroValue5
  t9 := Try.underlying9
  a9 := Try.isAgg9
  z9 := Try.sizeOf9
  v9 := Try.zeroValue9
  t20 := Try.underlying20
  a20 := Try.isAgg20
  z20 := Try.sizeOf20
  v20 := Try.zeroValue20
  t37 := Try.underlying33
  a37 := Try.isAgg33
  z37 := Try.sizeOf33
  v37 := Try.zeroValue33
  t70 := Try.underlying66
  a70 := Try.isAgg66
  z70 := Try.sizeOf66
  v70 := Try.zeroValue66
  t72 := Try.underlying68
  a72 := Try.isAgg68
  z72 := Try.sizeOf68
  v72 := Try.zeroValue68
  t75 := Try.underlying71
  a75 := Try.isAgg71
  z75 := Try.sizeOf71
  v75 := Try.zeroValue71
  t164 := Try.underlying79
  a164 := Try.isAgg79
  z164 := Try.sizeOf79
  v164 := Try.zeroValue79 }
theorem Try.Builder_Extra_167 : Builder.Extra Try.prog Try.lays167_ren := {
  sizeBuilder := by kernel_rfl
  liesBuilder := by kernel_rfl
  t5 := Try.underlying5
  a5 := Try.isAgg5
  z5 := Try.sizeOf5
  v5 := Try.zeroValue5
  infoByte := by kernel_rfl
  cellsByte := by kernel_rfl
  sizeByte := by kernel_rfl
  neB5 := by decide }
open Go.RowKit in
theorem Try.Builder_WriteByte (B b : Nat) (bs : List Value) (c : Int) (w : World) (h : Lib.IsBuilder 68 5 B b bs w) (hlen : bs.length + 1 ≤ 140737488355328) (hBw : B ≤ w.heap.size) :
    Calls Try.prog 38 #[.pointer (some ⟨b, 0, none⟩), .int .u8 c] w fun e w' => e = .returned .nilIface ∧ (Lib.BuilderAt 68 5 B b (.pointer (some ⟨b, 0, none⟩)) (bs ++ [.int .u8 c]) w' ∧ Below B w w') := Any.Builder_WriteByte Try.lays167 Try.Builder_Extra_167 B b bs c w h hlen hBw
end Go.Proofs
