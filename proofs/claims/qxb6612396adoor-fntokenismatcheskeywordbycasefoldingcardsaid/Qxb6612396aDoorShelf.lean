import Derived.Shelf.Unicode.Decode
import Derived.Test.Qxb6612396aDoorProg
namespace Go.Proofs
open Go.Shelf
def Tryd.lays197_ren : Go.Shelf.Ren := ⟨fun | 197 => 15 | 260 => 17 | n => n, fun | 9 => 9 | 21 => 21 | 3 => 3 | 4 => 4 | 5 => 5 | 105 => 31 | 119 => 44 | 0 => 0 | 46 => 37 | 139 => 47 | 138 => 46 | n => n, fun | 3 => 3 | 4 => 4 | n => n⟩
theorem Tryd.lays197 : Go.Proofs.Lays.n197 Tryd.prog Tryd.lays197_ren := {
  mixed := by kernel_rfl
  f197 := Tryd.func15.trans (congrArg some (by kernel_rfl))
  f260 := Tryd.func17.trans (congrArg some (by kernel_rfl))
  t0 := Tryd.underlying0
  a0 := Tryd.isAgg0
  z0 := Tryd.sizeOf0
  v0 := Tryd.zeroValue0
  t3 := Tryd.underlying3
  a3 := Tryd.isAgg3
  z3 := Tryd.sizeOf3
  v3 := Tryd.zeroValue3
  t4 := Tryd.underlying4
  a4 := Tryd.isAgg4
  z4 := Tryd.sizeOf4
  v4 := Tryd.zeroValue4
  t5 := Tryd.underlying5
  a5 := Tryd.isAgg5
  z5 := Tryd.sizeOf5
  v5 := Tryd.zeroValue5
  t9 := Tryd.underlying9
  a9 := Tryd.isAgg9
  z9 := Tryd.sizeOf9
  v9 := Tryd.zeroValue9
  t21 := Tryd.underlying21
  a21 := Tryd.isAgg21
  z21 := Tryd.sizeOf21
  v21 := Tryd.zeroValue21
  t46 := Tryd.underlying37
  a46 := Tryd.isAgg37
  z46 := Tryd.sizeOf37
  v46 := Tryd.zeroValue37
  t105 := Tryd.underlying31
  a105 := Tryd.isAgg31
  z105 := Tryd.sizeOf31
  v105 := Tryd.zeroValue31
  t119 := Tryd.underlying44
  a119 := Tryd.isAgg44
  z119 := Tryd.sizeOf44
  t138 := Tryd.underlying46
  a138 := Tryd.isAgg46
  z138 := Tryd.sizeOf46
  v138 := Tryd.zeroValue46
  t139 := Tryd.underlying47
  a139 := Tryd.isAgg47
  z139 := Tryd.sizeOf47
  v139 := Tryd.zeroValue47
  g3 := by kernel_rfl
  g4 := by kernel_rfl }
open Go.RowKit Go.Lib in
theorem Tryd.utf8_DecodeRuneInString_ascii (s : ByteArray) (x : UInt8) (w : World) (h0 : s.data.toList[0]? = some x) (hx : x.toNat < 128) :
    Calls Tryd.prog 15 #[.string s] w fun e w' => e = .returned (.tuple #[.int .i32 x.toNat, .int .i64 1]) ∧ w' = w := Any.utf8_DecodeRuneInString_ascii Tryd.lays197 s x w h0 hx
end Go.Proofs
