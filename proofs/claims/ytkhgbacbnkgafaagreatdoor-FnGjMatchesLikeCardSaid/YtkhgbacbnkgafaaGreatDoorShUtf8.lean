/- The library's contracts at this program (the kit's shelf, laid by its own tools). -/
import Derived.Shelf.Small.Utf8
import Derived.Shelf.Strconv.Itoa0
import Derived.Shelf.Strconv.Itoa1
import Derived.Shelf.LaysM
import Derived.Shelf.Strconv.Itoa2
import Derived.Shelf.Strconv.Itoa3
import Derived.Shelf.Strconv.Clone
import Derived.Shelf.Strconv.SyntaxError
import Derived.Shelf.LaysC
import Derived.Shelf.Strconv.ToError
import Derived.Shelf.Strconv.Lower
import Derived.Shelf.Strconv.RangeError
import Derived.Shelf.Strconv.ToErrorRange
import Derived.Shelf.Unicode.Decode
import Derived.Shelf.Bits.Mul64
import Derived.Shelf.Unicode.DecodeSlow
import Derived.Shelf.Unicode.DecodeAny
import Derived.Shelf.Unicode.DecodeLast
import Derived.Test.YtkhgbacbnkgafaaGreatDoorProg
namespace Go.Proofs
open Go.Shelf
def Tryz.lays197_ren : Go.Shelf.Ren := ⟨fun | 197 => 45 | 260 => 62 | n => n, fun | 9 => 9 | 21 => 21 | 3 => 3 | 4 => 4 | 5 => 5 | 105 => 87 | 119 => 145 | 0 => 0 | 46 => 99 | 139 => 148 | 138 => 147 | n => n, fun | 3 => 8 | 4 => 9 | n => n⟩
theorem Tryz.lays197 : Go.Proofs.Lays.n197 Tryz.prog Tryz.lays197_ren := {
  mixed := by kernel_rfl
  f197 := Tryz.func45.trans (congrArg some (by kernel_rfl))
  f260 := Tryz.func62.trans (congrArg some (by kernel_rfl))
  t0 := Tryz.underlying0
  a0 := Tryz.isAgg0
  z0 := Tryz.sizeOf0
  v0 := Tryz.zeroValue0
  t3 := Tryz.underlying3
  a3 := Tryz.isAgg3
  z3 := Tryz.sizeOf3
  v3 := Tryz.zeroValue3
  t4 := Tryz.underlying4
  a4 := Tryz.isAgg4
  z4 := Tryz.sizeOf4
  v4 := Tryz.zeroValue4
  t5 := Tryz.underlying5
  a5 := Tryz.isAgg5
  z5 := Tryz.sizeOf5
  v5 := Tryz.zeroValue5
  t9 := Tryz.underlying9
  a9 := Tryz.isAgg9
  z9 := Tryz.sizeOf9
  v9 := Tryz.zeroValue9
  t21 := Tryz.underlying21
  a21 := Tryz.isAgg21
  z21 := Tryz.sizeOf21
  v21 := Tryz.zeroValue21
  t46 := Tryz.underlying99
  a46 := Tryz.isAgg99
  z46 := Tryz.sizeOf99
  v46 := Tryz.zeroValue99
  t105 := Tryz.underlying87
  a105 := Tryz.isAgg87
  z105 := Tryz.sizeOf87
  v105 := Tryz.zeroValue87
  t119 := Tryz.underlying145
  a119 := Tryz.isAgg145
  z119 := Tryz.sizeOf145
  t138 := Tryz.underlying147
  a138 := Tryz.isAgg147
  z138 := Tryz.sizeOf147
  v138 := Tryz.zeroValue147
  t139 := Tryz.underlying148
  a139 := Tryz.isAgg148
  z139 := Tryz.sizeOf148
  v139 := Tryz.zeroValue148
  g3 := by kernel_rfl
  g4 := by kernel_rfl }
def Tryz.lays260_ren : Go.Shelf.Ren := ⟨fun | 260 => 62 | n => n, fun | 9 => 9 | 21 => 21 | 3 => 3 | 4 => 4 | 5 => 5 | 119 => 145 | 0 => 0 | 46 => 99 | 139 => 148 | 138 => 147 | n => n, fun | 3 => 8 | 4 => 9 | n => n⟩
theorem Tryz.lays260 : Go.Proofs.Lays.n260 Tryz.prog Tryz.lays260_ren := {
  mixed := by kernel_rfl
  f260 := Tryz.func62.trans (congrArg some (by kernel_rfl))
  t0 := Tryz.underlying0
  a0 := Tryz.isAgg0
  z0 := Tryz.sizeOf0
  v0 := Tryz.zeroValue0
  t3 := Tryz.underlying3
  a3 := Tryz.isAgg3
  z3 := Tryz.sizeOf3
  v3 := Tryz.zeroValue3
  t4 := Tryz.underlying4
  a4 := Tryz.isAgg4
  z4 := Tryz.sizeOf4
  v4 := Tryz.zeroValue4
  t5 := Tryz.underlying5
  a5 := Tryz.isAgg5
  z5 := Tryz.sizeOf5
  v5 := Tryz.zeroValue5
  t9 := Tryz.underlying9
  a9 := Tryz.isAgg9
  z9 := Tryz.sizeOf9
  v9 := Tryz.zeroValue9
  t21 := Tryz.underlying21
  a21 := Tryz.isAgg21
  z21 := Tryz.sizeOf21
  v21 := Tryz.zeroValue21
  t46 := Tryz.underlying99
  a46 := Tryz.isAgg99
  z46 := Tryz.sizeOf99
  v46 := Tryz.zeroValue99
  t119 := Tryz.underlying145
  a119 := Tryz.isAgg145
  z119 := Tryz.sizeOf145
  t138 := Tryz.underlying147
  a138 := Tryz.isAgg147
  z138 := Tryz.sizeOf147
  v138 := Tryz.zeroValue147
  t139 := Tryz.underlying148
  a139 := Tryz.isAgg148
  z139 := Tryz.sizeOf148
  v139 := Tryz.zeroValue148
  g3 := by kernel_rfl
  g4 := by kernel_rfl }
open Go.RowKit Go.Lib in
theorem Tryz.utf8_decodeRuneInStringSlow (s : ByteArray) (w : World) (hT : Lib.Utf8Tabs 8 9 w) :
    Calls Tryz.prog 62 #[.string s] w fun e w' => e = .returned (.tuple #[.int .i32 (Lib.decodeGo s).1, .int .i64 (Lib.decodeGo s).2]) ∧ Below w.heap.size w w' := Any.utf8_decodeRuneInStringSlow Tryz.lays260 s w hT
open Go.RowKit Go.Lib in
theorem Tryz.utf8_DecodeRuneInString (s : ByteArray) (w : World) (hT : Lib.Utf8Tabs 8 9 w) :
    Calls Tryz.prog 45 #[.string s] w fun e w' => e = .returned (.tuple #[.int .i32 (Lib.decodeGo s).1, .int .i64 (Lib.decodeGo s).2]) ∧ Below w.heap.size w w' := Any.utf8_DecodeRuneInString Tryz.lays197 s w hT
def Tryz.lays271_ren : Go.Shelf.Ren := ⟨fun | 271 => 63 | 120 => 81 | 197 => 45 | 260 => 62 | n => n, fun | 9 => 9 | 21 => 21 | 3 => 3 | 4 => 4 | 5 => 5 | 105 => 87 | 119 => 145 | 0 => 0 | 46 => 99 | 139 => 148 | 138 => 147 | n => n, fun | 3 => 8 | 4 => 9 | n => n⟩
theorem Tryz.lays271 : Go.Proofs.Lays.n271 Tryz.prog Tryz.lays271_ren := {
  mixed := by kernel_rfl
  f120 := Tryz.func81.trans (congrArg some (by kernel_rfl))
  f197 := Tryz.func45.trans (congrArg some (by kernel_rfl))
  f260 := Tryz.func62.trans (congrArg some (by kernel_rfl))
  f271 := Tryz.func63.trans (congrArg some (by kernel_rfl))
  t0 := Tryz.underlying0
  a0 := Tryz.isAgg0
  z0 := Tryz.sizeOf0
  v0 := Tryz.zeroValue0
  t3 := Tryz.underlying3
  a3 := Tryz.isAgg3
  z3 := Tryz.sizeOf3
  v3 := Tryz.zeroValue3
  t4 := Tryz.underlying4
  a4 := Tryz.isAgg4
  z4 := Tryz.sizeOf4
  v4 := Tryz.zeroValue4
  t5 := Tryz.underlying5
  a5 := Tryz.isAgg5
  z5 := Tryz.sizeOf5
  v5 := Tryz.zeroValue5
  t9 := Tryz.underlying9
  a9 := Tryz.isAgg9
  z9 := Tryz.sizeOf9
  v9 := Tryz.zeroValue9
  t21 := Tryz.underlying21
  a21 := Tryz.isAgg21
  z21 := Tryz.sizeOf21
  v21 := Tryz.zeroValue21
  t46 := Tryz.underlying99
  a46 := Tryz.isAgg99
  z46 := Tryz.sizeOf99
  v46 := Tryz.zeroValue99
  t105 := Tryz.underlying87
  a105 := Tryz.isAgg87
  z105 := Tryz.sizeOf87
  v105 := Tryz.zeroValue87
  t119 := Tryz.underlying145
  a119 := Tryz.isAgg145
  z119 := Tryz.sizeOf145
  t138 := Tryz.underlying147
  a138 := Tryz.isAgg147
  z138 := Tryz.sizeOf147
  v138 := Tryz.zeroValue147
  t139 := Tryz.underlying148
  a139 := Tryz.isAgg148
  z139 := Tryz.sizeOf148
  v139 := Tryz.zeroValue148
  g3 := by kernel_rfl
  g4 := by kernel_rfl }
open Go.RowKit Go.Lib in
theorem Tryz.utf8_DecodeLastRuneInString (s : ByteArray) (w : World) (hs : s.size ≤ 9223372036854775807) (hT : Lib.Utf8Tabs 8 9 w) :
    Calls Tryz.prog 63 #[.string s] w fun e w' => e = .returned (.tuple #[.int .i32 (Lib.decodeLastL s.data.toList).1, .int .i64 (Lib.decodeLastL s.data.toList).2]) ∧ Below w.heap.size w w' := Any.utf8_DecodeLastRuneInString Tryz.lays271 s w hs hT
end Go.Proofs
