/- Joined by a program of mine from texts of this claim: Sh. -/
import Derived.Shelf.Spec.EncodeRune
import Derived.Shelf.LaysM
import Derived.Shelf.Strconv.Clone
import Derived.Shelf.Strconv.SyntaxError
import Derived.Shelf.LaysC
import Derived.Shelf.Strconv.ToError
import Derived.Shelf.Strconv.Lower
import Derived.Shelf.Strconv.RangeError
import Derived.Shelf.Strconv.ToErrorRange
import Derived.Shelf.Unicode.Decode
import Derived.Shelf.Bits.Mul64
import Derived.Shelf.Unicode.DecodeSlow
import Derived.Shelf.Unicode.DecodeAny
import Derived.Test.YtldfejbmdonaoaaGreatDoorProg
namespace Go.Proofs.YtldfejbmdonaoaaGreatDoor.Sh
open Go.Proofs
open Go.Shelf
def lays197_ren : Go.Shelf.Ren := ⟨fun | 197 => 49 | 260 => 58 | n => n, fun | 9 => 9 | 21 => 21 | 3 => 3 | 4 => 4 | 5 => 5 | 105 => 79 | 119 => 99 | 0 => 0 | 46 => 92 | 139 => 102 | 138 => 101 | n => n, fun | 3 => 1 | 4 => 2 | n => n⟩
theorem lays197 : Go.Proofs.Lays.n197 Tryz.prog lays197_ren := {
  mixed := by kernel_rfl
  f197 := Tryz.func49.trans (congrArg some (by kernel_rfl))
  f260 := Tryz.func58.trans (congrArg some (by kernel_rfl))
  t0 := Tryz.underlying0
  a0 := Tryz.isAgg0
  z0 := Tryz.sizeOf0
  v0 := Tryz.zeroValue0
  t3 := Tryz.underlying3
  a3 := Tryz.isAgg3
  z3 := Tryz.sizeOf3
  v3 := Tryz.zeroValue3
  t4 := Tryz.underlying4
  a4 := Tryz.isAgg4
  z4 := Tryz.sizeOf4
  v4 := Tryz.zeroValue4
  t5 := Tryz.underlying5
  a5 := Tryz.isAgg5
  z5 := Tryz.sizeOf5
  v5 := Tryz.zeroValue5
  t9 := Tryz.underlying9
  a9 := Tryz.isAgg9
  z9 := Tryz.sizeOf9
  v9 := Tryz.zeroValue9
  t21 := Tryz.underlying21
  a21 := Tryz.isAgg21
  z21 := Tryz.sizeOf21
  v21 := Tryz.zeroValue21
  t46 := Tryz.underlying92
  a46 := Tryz.isAgg92
  z46 := Tryz.sizeOf92
  v46 := Tryz.zeroValue92
  t105 := Tryz.underlying79
  a105 := Tryz.isAgg79
  z105 := Tryz.sizeOf79
  v105 := Tryz.zeroValue79
  t119 := Tryz.underlying99
  a119 := Tryz.isAgg99
  z119 := Tryz.sizeOf99
  t138 := Tryz.underlying101
  a138 := Tryz.isAgg101
  z138 := Tryz.sizeOf101
  v138 := Tryz.zeroValue101
  t139 := Tryz.underlying102
  a139 := Tryz.isAgg102
  z139 := Tryz.sizeOf102
  v139 := Tryz.zeroValue102
  g3 := by kernel_rfl
  g4 := by kernel_rfl }
def lays260_ren : Go.Shelf.Ren := ⟨fun | 260 => 58 | n => n, fun | 9 => 9 | 21 => 21 | 3 => 3 | 4 => 4 | 5 => 5 | 119 => 99 | 0 => 0 | 46 => 92 | 139 => 102 | 138 => 101 | n => n, fun | 3 => 1 | 4 => 2 | n => n⟩
theorem lays260 : Go.Proofs.Lays.n260 Tryz.prog lays260_ren := {
  mixed := by kernel_rfl
  f260 := Tryz.func58.trans (congrArg some (by kernel_rfl))
  t0 := Tryz.underlying0
  a0 := Tryz.isAgg0
  z0 := Tryz.sizeOf0
  v0 := Tryz.zeroValue0
  t3 := Tryz.underlying3
  a3 := Tryz.isAgg3
  z3 := Tryz.sizeOf3
  v3 := Tryz.zeroValue3
  t4 := Tryz.underlying4
  a4 := Tryz.isAgg4
  z4 := Tryz.sizeOf4
  v4 := Tryz.zeroValue4
  t5 := Tryz.underlying5
  a5 := Tryz.isAgg5
  z5 := Tryz.sizeOf5
  v5 := Tryz.zeroValue5
  t9 := Tryz.underlying9
  a9 := Tryz.isAgg9
  z9 := Tryz.sizeOf9
  v9 := Tryz.zeroValue9
  t21 := Tryz.underlying21
  a21 := Tryz.isAgg21
  z21 := Tryz.sizeOf21
  v21 := Tryz.zeroValue21
  t46 := Tryz.underlying92
  a46 := Tryz.isAgg92
  z46 := Tryz.sizeOf92
  v46 := Tryz.zeroValue92
  t119 := Tryz.underlying99
  a119 := Tryz.isAgg99
  z119 := Tryz.sizeOf99
  t138 := Tryz.underlying101
  a138 := Tryz.isAgg101
  z138 := Tryz.sizeOf101
  v138 := Tryz.zeroValue101
  t139 := Tryz.underlying102
  a139 := Tryz.isAgg102
  z139 := Tryz.sizeOf102
  v139 := Tryz.zeroValue102
  g3 := by kernel_rfl
  g4 := by kernel_rfl }
open Go.RowKit Go.Lib in
theorem utf8_DecodeRuneInString (s : ByteArray) (w : World) (hT : Lib.Utf8Tabs 1 2 w) :
    Calls Tryz.prog 49 #[.string s] w fun e w' => e = .returned (.tuple #[.int .i32 (Lib.decodeGo s).1, .int .i64 (Lib.decodeGo s).2]) ∧ Below w.heap.size w w' := Any.utf8_DecodeRuneInString lays197 s w hT
def lays7x30_ren : Go.Shelf.Ren := ⟨fun | 30 => 66 | 47 => 80 | n => n, fun | 30 => 53 | 21 => 21 | 3 => 3 | 27 => 112 | 4 => 4 | 5 => 5 | 0 => 0 | 25 => 92 | n => n, fun | n => n⟩
theorem lays7x30 : Go.Proofs.Lays7.n30 Tryz.prog lays7x30_ren := {
  mixed := by kernel_rfl
  f30 := Tryz.func66.trans (congrArg some (by kernel_rfl))
  f47 := Tryz.func80.trans (congrArg some (by kernel_rfl))
  t0 := Tryz.underlying0
  a0 := Tryz.isAgg0
  z0 := Tryz.sizeOf0
  v0 := Tryz.zeroValue0
  i0 := by kernel_rfl
  t3 := Tryz.underlying3
  a3 := Tryz.isAgg3
  z3 := Tryz.sizeOf3
  v3 := Tryz.zeroValue3
  i3 := by kernel_rfl
  t4 := Tryz.underlying4
  a4 := Tryz.isAgg4
  z4 := Tryz.sizeOf4
  v4 := Tryz.zeroValue4
  i4 := by kernel_rfl
  t5 := Tryz.underlying5
  a5 := Tryz.isAgg5
  z5 := Tryz.sizeOf5
  v5 := Tryz.zeroValue5
  i5 := by kernel_rfl
  t21 := Tryz.underlying21
  a21 := Tryz.isAgg21
  z21 := Tryz.sizeOf21
  v21 := Tryz.zeroValue21
  i21 := by kernel_rfl
  t25 := Tryz.underlying92
  a25 := Tryz.isAgg92
  z25 := Tryz.sizeOf92
  v25 := Tryz.zeroValue92
  i25 := by kernel_rfl
  t27 := Tryz.underlying112
  a27 := Tryz.isAgg112
  z27 := Tryz.sizeOf112
  v27 := Tryz.zeroValue112
  i27 := by kernel_rfl
  t30 := Tryz.underlying53
  a30 := Tryz.isAgg53
  z30 := Tryz.sizeOf53
  v30 := Tryz.zeroValue53
  i30 := by kernel_rfl }
open Go.RowKit Go.Lib in
theorem utf8_EncodeRune (b off len cap : Nat) (r : Int) (hlo : -2147483648 ≤ r) (hhi : r ≤ 2147483647) (w : World) (hl : (Lib.runeCells r).length ≤ len) (hc : ∀ j, j < (Lib.runeCells r).length → (w.cell? ⟨b, off + j, none⟩).isSome = true) (hf : ∀ j, j < (Lib.runeCells r).length → w.frozen? ⟨b, off + j, none⟩ = false) :
    Calls Tryz.prog 66 #[.slice (some ⟨b, off, none⟩) len cap, .int .i32 r] w fun e w' => e = .returned (.int .i64 (Lib.runeCells r).length) ∧ w' = w.setCells b off (Lib.runeCells r) := Any7.utf8_EncodeRune lays7x30 b off len cap r hlo hhi w hl hc hf
end Go.Proofs.YtldfejbmdonaoaaGreatDoor.Sh