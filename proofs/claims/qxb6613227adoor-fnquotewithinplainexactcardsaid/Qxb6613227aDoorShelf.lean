import Derived.Shelf.Unicode.Decode
import Derived.Shelf.Unicode.DecodeSlow
import Derived.Shelf.Unicode.DecodeAny
import Derived.Test.Qxb6613227aDoorProg
namespace Go.Proofs
open Go.Shelf
def Tryd.lays197_ren : Go.Shelf.Ren := ⟨fun | 197 => 9 | 260 => 10 | n => n, fun | 9 => 9 | 21 => 21 | 3 => 3 | 4 => 4 | 5 => 5 | 105 => 29 | 119 => 31 | 0 => 0 | 46 => 32 | 139 => 35 | 138 => 34 | n => n, fun | 3 => 0 | 4 => 1 | n => n⟩
theorem Tryd.lays197 : Go.Proofs.Lays.n197 Tryd.prog Tryd.lays197_ren := {
  mixed := by kernel_rfl
  f197 := Tryd.func9.trans (congrArg some (by kernel_rfl))
  f260 := Tryd.func10.trans (congrArg some (by kernel_rfl))
  t0 := Tryd.underlying0
  a0 := Tryd.isAgg0
  z0 := Tryd.sizeOf0
  v0 := Tryd.zeroValue0
  t3 := Tryd.underlying3
  a3 := Tryd.isAgg3
  z3 := Tryd.sizeOf3
  v3 := Tryd.zeroValue3
  t4 := Tryd.underlying4
  a4 := Tryd.isAgg4
  z4 := Tryd.sizeOf4
  v4 := Tryd.zeroValue4
  t5 := Tryd.underlying5
  a5 := Tryd.isAgg5
  z5 := Tryd.sizeOf5
  v5 := Tryd.zeroValue5
  t9 := Tryd.underlying9
  a9 := Tryd.isAgg9
  z9 := Tryd.sizeOf9
  v9 := Tryd.zeroValue9
  t21 := Tryd.underlying21
  a21 := Tryd.isAgg21
  z21 := Tryd.sizeOf21
  v21 := Tryd.zeroValue21
  t46 := Tryd.underlying32
  a46 := Tryd.isAgg32
  z46 := Tryd.sizeOf32
  v46 := Tryd.zeroValue32
  t105 := Tryd.underlying29
  a105 := Tryd.isAgg29
  z105 := Tryd.sizeOf29
  v105 := Tryd.zeroValue29
  t119 := Tryd.underlying31
  a119 := Tryd.isAgg31
  z119 := Tryd.sizeOf31
  t138 := Tryd.underlying34
  a138 := Tryd.isAgg34
  z138 := Tryd.sizeOf34
  v138 := Tryd.zeroValue34
  t139 := Tryd.underlying35
  a139 := Tryd.isAgg35
  z139 := Tryd.sizeOf35
  v139 := Tryd.zeroValue35
  g3 := by kernel_rfl
  g4 := by kernel_rfl }
def Tryd.lays260_ren : Go.Shelf.Ren := ⟨fun | 260 => 10 | n => n, fun | 9 => 9 | 21 => 21 | 3 => 3 | 4 => 4 | 5 => 5 | 119 => 31 | 0 => 0 | 46 => 32 | 139 => 35 | 138 => 34 | n => n, fun | 3 => 0 | 4 => 1 | n => n⟩
theorem Tryd.lays260 : Go.Proofs.Lays.n260 Tryd.prog Tryd.lays260_ren := {
  mixed := by kernel_rfl
  f260 := Tryd.func10.trans (congrArg some (by kernel_rfl))
  t0 := Tryd.underlying0
  a0 := Tryd.isAgg0
  z0 := Tryd.sizeOf0
  v0 := Tryd.zeroValue0
  t3 := Tryd.underlying3
  a3 := Tryd.isAgg3
  z3 := Tryd.sizeOf3
  v3 := Tryd.zeroValue3
  t4 := Tryd.underlying4
  a4 := Tryd.isAgg4
  z4 := Tryd.sizeOf4
  v4 := Tryd.zeroValue4
  t5 := Tryd.underlying5
  a5 := Tryd.isAgg5
  z5 := Tryd.sizeOf5
  v5 := Tryd.zeroValue5
  t9 := Tryd.underlying9
  a9 := Tryd.isAgg9
  z9 := Tryd.sizeOf9
  v9 := Tryd.zeroValue9
  t21 := Tryd.underlying21
  a21 := Tryd.isAgg21
  z21 := Tryd.sizeOf21
  v21 := Tryd.zeroValue21
  t46 := Tryd.underlying32
  a46 := Tryd.isAgg32
  z46 := Tryd.sizeOf32
  v46 := Tryd.zeroValue32
  t119 := Tryd.underlying31
  a119 := Tryd.isAgg31
  z119 := Tryd.sizeOf31
  t138 := Tryd.underlying34
  a138 := Tryd.isAgg34
  z138 := Tryd.sizeOf34
  v138 := Tryd.zeroValue34
  t139 := Tryd.underlying35
  a139 := Tryd.isAgg35
  z139 := Tryd.sizeOf35
  v139 := Tryd.zeroValue35
  g3 := by kernel_rfl
  g4 := by kernel_rfl }
open Go.RowKit Go.Lib in
theorem Tryd.utf8_DecodeRuneInString (s : ByteArray) (w : World) (hT : Lib.Utf8Tabs 0 1 w) :
    Calls Tryd.prog 9 #[.string s] w fun e w' => e = .returned (.tuple #[.int .i32 (Lib.decodeGo s).1, .int .i64 (Lib.decodeGo s).2]) ∧ Below w.heap.size w w' := Any.utf8_DecodeRuneInString Tryd.lays197 s w hT
end Go.Proofs
