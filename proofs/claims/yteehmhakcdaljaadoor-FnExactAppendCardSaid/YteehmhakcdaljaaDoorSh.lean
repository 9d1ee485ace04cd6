/- Contracts of Go's library at this dump, laid by the kit's shelf (lay-shelf.mjs, lay-plain.mjs), in plain words. -/
import Derived.Shelf.Unicode.Decode
import Derived.Shelf.Unicode.DecodeSlow
import Derived.Shelf.Unicode.DecodeAny
import Derived.Test.YteehmhakcdaljaaDoorProg
namespace Go.Proofs.YteehmhakcdaljaaDoor.Sh
open Go.Proofs
open Go.Shelf
def lays197_ren : Go.Shelf.Ren := ⟨fun | 197 => 18 | 260 => 22 | n => n, fun | 9 => 9 | 21 => 21 | 3 => 3 | 4 => 4 | 5 => 5 | 105 => 46 | 119 => 52 | 0 => 0 | 46 => 50 | 139 => 55 | 138 => 54 | n => n, fun | 3 => 1 | 4 => 2 | n => n⟩
theorem lays197 : Go.Proofs.Lays.n197 Tryd.prog lays197_ren := {
  mixed := by kernel_rfl
  f197 := Tryd.func18.trans (congrArg some (by kernel_rfl))
  f260 := Tryd.func22.trans (congrArg some (by kernel_rfl))
  t0 := Tryd.underlying0
  a0 := Tryd.isAgg0
  z0 := Tryd.sizeOf0
  v0 := Tryd.zeroValue0
  t3 := Tryd.underlying3
  a3 := Tryd.isAgg3
  z3 := Tryd.sizeOf3
  v3 := Tryd.zeroValue3
  t4 := Tryd.underlying4
  a4 := Tryd.isAgg4
  z4 := Tryd.sizeOf4
  v4 := Tryd.zeroValue4
  t5 := Tryd.underlying5
  a5 := Tryd.isAgg5
  z5 := Tryd.sizeOf5
  v5 := Tryd.zeroValue5
  t9 := Tryd.underlying9
  a9 := Tryd.isAgg9
  z9 := Tryd.sizeOf9
  v9 := Tryd.zeroValue9
  t21 := Tryd.underlying21
  a21 := Tryd.isAgg21
  z21 := Tryd.sizeOf21
  v21 := Tryd.zeroValue21
  t46 := Tryd.underlying50
  a46 := Tryd.isAgg50
  z46 := Tryd.sizeOf50
  v46 := Tryd.zeroValue50
  t105 := Tryd.underlying46
  a105 := Tryd.isAgg46
  z105 := Tryd.sizeOf46
  v105 := Tryd.zeroValue46
  t119 := Tryd.underlying52
  a119 := Tryd.isAgg52
  z119 := Tryd.sizeOf52
  t138 := Tryd.underlying54
  a138 := Tryd.isAgg54
  z138 := Tryd.sizeOf54
  v138 := Tryd.zeroValue54
  t139 := Tryd.underlying55
  a139 := Tryd.isAgg55
  z139 := Tryd.sizeOf55
  v139 := Tryd.zeroValue55
  g3 := by kernel_rfl
  g4 := by kernel_rfl }
open Go.RowKit Go.Lib in
theorem utf8_DecodeRuneInString_ascii (s : ByteArray) (x : UInt8) (w : World) (h0 : s.data.toList[0]? = some x) (hx : x.toNat < 128) :
    Calls Tryd.prog 18 #[.string s] w fun e w' => e = .returned (.tuple #[.int .i32 x.toNat, .int .i64 1]) ∧ w' = w := Any.utf8_DecodeRuneInString_ascii lays197 s x w h0 hx
def lays260_ren : Go.Shelf.Ren := ⟨fun | 260 => 22 | n => n, fun | 9 => 9 | 21 => 21 | 3 => 3 | 4 => 4 | 5 => 5 | 119 => 52 | 0 => 0 | 46 => 50 | 139 => 55 | 138 => 54 | n => n, fun | 3 => 1 | 4 => 2 | n => n⟩
theorem lays260 : Go.Proofs.Lays.n260 Tryd.prog lays260_ren := {
  mixed := by kernel_rfl
  f260 := Tryd.func22.trans (congrArg some (by kernel_rfl))
  t0 := Tryd.underlying0
  a0 := Tryd.isAgg0
  z0 := Tryd.sizeOf0
  v0 := Tryd.zeroValue0
  t3 := Tryd.underlying3
  a3 := Tryd.isAgg3
  z3 := Tryd.sizeOf3
  v3 := Tryd.zeroValue3
  t4 := Tryd.underlying4
  a4 := Tryd.isAgg4
  z4 := Tryd.sizeOf4
  v4 := Tryd.zeroValue4
  t5 := Tryd.underlying5
  a5 := Tryd.isAgg5
  z5 := Tryd.sizeOf5
  v5 := Tryd.zeroValue5
  t9 := Tryd.underlying9
  a9 := Tryd.isAgg9
  z9 := Tryd.sizeOf9
  v9 := Tryd.zeroValue9
  t21 := Tryd.underlying21
  a21 := Tryd.isAgg21
  z21 := Tryd.sizeOf21
  v21 := Tryd.zeroValue21
  t46 := Tryd.underlying50
  a46 := Tryd.isAgg50
  z46 := Tryd.sizeOf50
  v46 := Tryd.zeroValue50
  t119 := Tryd.underlying52
  a119 := Tryd.isAgg52
  z119 := Tryd.sizeOf52
  t138 := Tryd.underlying54
  a138 := Tryd.isAgg54
  z138 := Tryd.sizeOf54
  v138 := Tryd.zeroValue54
  t139 := Tryd.underlying55
  a139 := Tryd.isAgg55
  z139 := Tryd.sizeOf55
  v139 := Tryd.zeroValue55
  g3 := by kernel_rfl
  g4 := by kernel_rfl }
open Go.RowKit Go.Lib in
theorem utf8_decodeRuneInStringSlow (s : ByteArray) (w : World) (hT : Lib.Utf8Tabs 1 2 w) :
    Calls Tryd.prog 22 #[.string s] w fun e w' => e = .returned (.tuple #[.int .i32 (Lib.decodeGo s).1, .int .i64 (Lib.decodeGo s).2]) ∧ Below w.heap.size w w' := Any.utf8_decodeRuneInStringSlow lays260 s w hT
open Go.RowKit Go.Lib in
theorem utf8_DecodeRuneInString (s : ByteArray) (w : World) (hT : Lib.Utf8Tabs 1 2 w) :
    Calls Tryd.prog 18 #[.string s] w fun e w' => e = .returned (.tuple #[.int .i32 (Lib.decodeGo s).1, .int .i64 (Lib.decodeGo s).2]) ∧ Below w.heap.size w w' := Any.utf8_DecodeRuneInString lays197 s w hT
end Go.Proofs.YteehmhakcdaljaaDoor.Sh
