/- Joined by a program of mine from texts of this claim: Sw. -/
import Derived.Shelf.Strconv.Itoa0
import Derived.Shelf.LaysM
import Derived.Shelf.Strconv.Clone
import Derived.Shelf.Strconv.SyntaxError
import Derived.Shelf.LaysC
import Derived.Shelf.Strconv.ToError
import Derived.Shelf.Strconv.Lower
import Derived.Shelf.Strconv.RangeError
import Derived.Shelf.Strconv.ToErrorRange
import Derived.Shelf.Bits.Mul64
import Derived.Test.YtldfejbmdonaoaaDoorProg
namespace Go.Proofs.YtldfejbmdonaoaaDoor.Sw
open Go.Proofs
open Go.Shelf
def lays129_ren : Go.Shelf.Ren := ⟨fun | 129 => 89 | n => n, fun | 53 => 37 | 3 => 3 | 4 => 4 | 46 => 103 | 5 => 5 | 9 => 9 | n => n, fun | n => n⟩
theorem lays129 : Go.Proofs.Lays.n129 Tryd.prog lays129_ren := {
  mixed := by kernel_rfl
  f129 := Tryd.func89.trans (congrArg some (by kernel_rfl))
  t3 := Tryd.underlying3
  a3 := Tryd.isAgg3
  z3 := Tryd.sizeOf3
  v3 := Tryd.zeroValue3
  t4 := Tryd.underlying4
  a4 := Tryd.isAgg4
  z4 := Tryd.sizeOf4
  v4 := Tryd.zeroValue4
  t5 := Tryd.underlying5
  a5 := Tryd.isAgg5
  z5 := Tryd.sizeOf5
  v5 := Tryd.zeroValue5
  t9 := Tryd.underlying9
  a9 := Tryd.isAgg9
  z9 := Tryd.sizeOf9
  v9 := Tryd.zeroValue9
  t46 := Tryd.underlying103
  a46 := Tryd.isAgg103
  z46 := Tryd.sizeOf103
  v46 := Tryd.zeroValue103
  t53 := Tryd.underlying37
  a53 := Tryd.isAgg37
  z53 := Tryd.sizeOf37
  v53 := Tryd.zeroValue37 }
theorem bits_Len64 (x : Int) (w : World) (h0 : 0 ≤ x) (h1 : x ≤ 18446744073709551615) :
    Calls Tryd.prog 89 #[.int .u64 x] w fun e w' => e = .returned (.int .i64 (Lib.bitLen x.toNat)) ∧ w' = w := Any.bits_Len64 lays129 x w h0 h1
def laysC245_ren : Go.Shelf.Ren := ⟨fun | 245 => 46 | 279 => 58 | 280 => 59 | 281 => 60 | 282 => 61 | 316 => 66 | 171 => 68 | 205 => 67 | 243 => 83 | 246 => 100 | 283 => 105 | 284 => 106 | 285 => 107 | 286 => 108 | 129 => 89 | 317 => 111 | 318 => 93 | 319 => 112 | 320 => 113 | 337 => 114 | 338 => 115 | n => n, fun | 9 => 9 | 3 => 3 | 75 => 71 | 167 => 96 | 4 => 4 | 168 => 97 | 210 => 110 | 37 => 54 | 0 => 0 | 127 => 135 | 145 => 138 | 143 => 136 | 2 => 2 | 171 => 166 | 53 => 37 | 5 => 5 | 173 => 168 | 212 => 175 | 51 => 104 | 20 => 20 | 213 => 176 | 46 => 103 | 232 => 180 | 233 => 181 | 80 => 182 | n => n, fun | 15 => 1 | 16 => 2 | 17 => 11 | 18 => 12 | 19 => 13 | n => n⟩
theorem laysC245 : Go.Proofs.LaysC.n245 Tryd.prog laysC245_ren := {
  mixed := by kernel_rfl
  f129 := Tryd.func89.trans (congrArg some (by kernel_rfl))
  f171 := Tryd.func68.trans (congrArg some (by kernel_rfl))
  f205 := Tryd.func67.trans (congrArg some (by kernel_rfl))
  f243 := Tryd.func83.trans (congrArg some (by kernel_rfl))
  f245 := Tryd.func46.trans (congrArg some (by kernel_rfl))
  f246 := Tryd.func100.trans (congrArg some (by kernel_rfl))
  f279 := Tryd.func58.trans (congrArg some (by kernel_rfl))
  f280 := Tryd.func59.trans (congrArg some (by kernel_rfl))
  f281 := Tryd.func60.trans (congrArg some (by kernel_rfl))
  f282 := Tryd.func61.trans (congrArg some (by kernel_rfl))
  f283 := Tryd.func105.trans (congrArg some (by kernel_rfl))
  f284 := Tryd.func106.trans (congrArg some (by kernel_rfl))
  f285 := Tryd.func107.trans (congrArg some (by kernel_rfl))
  f286 := Tryd.func108.trans (congrArg some (by kernel_rfl))
  f316 := Tryd.func66.trans (congrArg some (by kernel_rfl))
  f317 := Tryd.func111.trans (congrArg some (by kernel_rfl))
  f318 := Tryd.func93.trans (congrArg some (by kernel_rfl))
  f319 := Tryd.func112.trans (congrArg some (by kernel_rfl))
  f320 := Tryd.func113.trans (congrArg some (by kernel_rfl))
  f337 := Tryd.func114.trans (congrArg some (by kernel_rfl))
  f338 := Tryd.func115.trans (congrArg some (by kernel_rfl))
  t0 := Tryd.underlying0
  a0 := Tryd.isAgg0
  z0 := Tryd.sizeOf0
  v0 := Tryd.zeroValue0
  t2 := Tryd.underlying2
  a2 := Tryd.isAgg2
  z2 := Tryd.sizeOf2
  v2 := Tryd.zeroValue2
  t3 := Tryd.underlying3
  a3 := Tryd.isAgg3
  z3 := Tryd.sizeOf3
  v3 := Tryd.zeroValue3
  t4 := Tryd.underlying4
  a4 := Tryd.isAgg4
  z4 := Tryd.sizeOf4
  v4 := Tryd.zeroValue4
  t5 := Tryd.underlying5
  a5 := Tryd.isAgg5
  z5 := Tryd.sizeOf5
  v5 := Tryd.zeroValue5
  t9 := Tryd.underlying9
  a9 := Tryd.isAgg9
  z9 := Tryd.sizeOf9
  v9 := Tryd.zeroValue9
  t20 := Tryd.underlying20
  a20 := Tryd.isAgg20
  z20 := Tryd.sizeOf20
  v20 := Tryd.zeroValue20
  t37 := Tryd.underlying54
  a37 := Tryd.isAgg54
  z37 := Tryd.sizeOf54
  v37 := Tryd.zeroValue54
  t46 := Tryd.underlying103
  a46 := Tryd.isAgg103
  z46 := Tryd.sizeOf103
  v46 := Tryd.zeroValue103
  t51 := Tryd.underlying104
  a51 := Tryd.isAgg104
  z51 := Tryd.sizeOf104
  v51 := Tryd.zeroValue104
  t53 := Tryd.underlying37
  a53 := Tryd.isAgg37
  z53 := Tryd.sizeOf37
  v53 := Tryd.zeroValue37
  t75 := Tryd.underlying71
  a75 := Tryd.isAgg71
  z75 := Tryd.sizeOf71
  v75 := Tryd.zeroValue71
  t127 := Tryd.underlying135
  a127 := Tryd.isAgg135
  z127 := Tryd.sizeOf135
  v127 := Tryd.zeroValue135
  t143 := Tryd.underlying136
  a143 := Tryd.isAgg136
  z143 := Tryd.sizeOf136
  v143 := Tryd.zeroValue136
  t145 := Tryd.underlying138
  a145 := Tryd.isAgg138
  z145 := Tryd.sizeOf138
  v145 := Tryd.zeroValue138
  t167 := Tryd.underlying96
  a167 := Tryd.isAgg96
  z167 := Tryd.sizeOf96
  v167 := Tryd.zeroValue96
  t168 := Tryd.underlying97
  a168 := Tryd.isAgg97
  z168 := Tryd.sizeOf97
  v168 := Tryd.zeroValue97
  t171 := Tryd.underlying166
  a171 := Tryd.isAgg166
  z171 := Tryd.sizeOf166
  v171 := Tryd.zeroValue166
  t173 := Tryd.underlying168
  a173 := Tryd.isAgg168
  z173 := Tryd.sizeOf168
  v173 := Tryd.zeroValue168
  t210 := Tryd.underlying110
  a210 := Tryd.isAgg110
  z210 := Tryd.sizeOf110
  v210 := Tryd.zeroValue110
  t212 := Tryd.underlying175
  a212 := Tryd.isAgg175
  z212 := Tryd.sizeOf175
  v212 := Tryd.zeroValue175
  t213 := Tryd.underlying176
  a213 := Tryd.isAgg176
  z213 := Tryd.sizeOf176
  t232 := Tryd.underlying180
  a232 := Tryd.isAgg180
  z232 := Tryd.sizeOf180
  v232 := Tryd.zeroValue180
  t233 := Tryd.underlying181
  a233 := Tryd.isAgg181
  z233 := Tryd.sizeOf181
  v233 := Tryd.zeroValue181
  g15 := by kernel_rfl
  g16 := by kernel_rfl
  g17 := by kernel_rfl
  g18 := by kernel_rfl
  g19 := by kernel_rfl
  t80 := Tryd.underlying182
  a80 := Tryd.isAgg182
  z80 := Tryd.sizeOf182
  v80 := Tryd.zeroValue182
  i0 := by kernel_rfl
  i2 := by kernel_rfl
  i3 := by kernel_rfl
  i4 := by kernel_rfl
  i5 := by kernel_rfl
  i9 := by kernel_rfl
  i20 := by kernel_rfl
  i37 := by kernel_rfl
  i46 := by kernel_rfl
  i51 := by kernel_rfl
  i53 := by kernel_rfl
  i75 := by kernel_rfl
  i80 := by kernel_rfl
  i127 := by kernel_rfl
  i143 := by kernel_rfl
  i145 := by kernel_rfl
  i167 := by kernel_rfl
  i168 := by kernel_rfl
  i171 := by kernel_rfl
  i173 := by kernel_rfl
  i210 := by kernel_rfl
  i212 := by kernel_rfl
  i232 := by kernel_rfl
  i233 := by kernel_rfl
  m15 := by kernel_rfl
  m16 := by kernel_rfl
  m17 := by kernel_rfl
  m18 := by kernel_rfl
  m19 := by kernel_rfl
  c0 := by kernel_rfl
  c2 := by kernel_rfl
  c3 := by kernel_rfl
  c4 := by kernel_rfl
  c5 := by kernel_rfl
  c9 := by kernel_rfl
  c20 := by kernel_rfl
  c37 := by kernel_rfl
  c46 := by kernel_rfl
  c51 := by kernel_rfl
  c53 := by kernel_rfl
  c75 := by kernel_rfl
  c80 := by kernel_rfl
  c127 := by kernel_rfl
  c143 := by kernel_rfl
  c145 := by kernel_rfl
  c167 := by kernel_rfl
  c168 := by kernel_rfl
  c171 := by kernel_rfl
  c173 := by kernel_rfl
  c210 := by kernel_rfl
  c212 := by kernel_rfl
  c213 := by kernel_rfl
  c232 := by kernel_rfl
  c233 := by kernel_rfl }
open Go.RowKit in
theorem strconv_toError_syntax (fn s : ByteArray) (base bits : Int) (ev : Value) (w : World) (hlim : s.size ≤ 281474976710656) (hv : w.cell? ⟨1, 0, none⟩ = some ev) (hev : ev = .nilIface ∨ ∃ te pe, ev = .iface te pe) :
    Calls Tryd.prog 46 #[.string fn, .string s, .int .i64 base, .int .i64 bits, .iface 96 (.int .i64 2)] w fun e w' => ∃ N, e = .returned (.iface 97 (.pointer (some ⟨N, 0, none⟩))) ∧ w.heap.size ≤ N ∧ w'.heap[N]? = some (.cells #[.string fn, .string s, ev] 110 (0, 0)) ∧ Below w.heap.size w w' := Any.strconv_toError_syntax laysC245 fn s base bits ev w hlim hv hev
open Go.RowKit in
theorem strconv_toError_range (fn s : ByteArray) (base bits : Int) (ev : Value) (w : World) (hlim : s.size ≤ 281474976710656) (hv : w.cell? ⟨2, 0, none⟩ = some ev) (hev : ev = .nilIface ∨ ∃ te pe, ev = .iface te pe) :
    Calls Tryd.prog 46 #[.string fn, .string s, .int .i64 base, .int .i64 bits, .iface 96 (.int .i64 1)] w fun e w' => ∃ N, e = .returned (.iface 97 (.pointer (some ⟨N, 0, none⟩))) ∧ w.heap.size ≤ N ∧ w'.heap[N]? = some (.cells #[.string fn, .string s, ev] 110 (0, 0)) ∧ Below w.heap.size w w' := Any.strconv_toError_range laysC245 fn s base bits ev w hlim hv hev
def lays264_ren : Go.Shelf.Ren := ⟨fun | 264 => 101 | n => n, fun | 53 => 37 | 46 => 103 | n => n, fun | n => n⟩
theorem lays264 : Go.Proofs.Lays.n264 Tryd.prog lays264_ren := {
  mixed := by kernel_rfl
  f264 := Tryd.func101.trans (congrArg some (by kernel_rfl))
  t46 := Tryd.underlying103
  a46 := Tryd.isAgg103
  z46 := Tryd.sizeOf103
  v46 := Tryd.zeroValue103
  t53 := Tryd.underlying37
  a53 := Tryd.isAgg37
  z53 := Tryd.sizeOf37
  v53 := Tryd.zeroValue37 }
open Go.RowKit Go.Lib in
theorem bits_Mul64 (x y : Nat) (hx : x < 18446744073709551616) (hy : y < 18446744073709551616) (w : World) :
    Calls Tryd.prog 101 #[.int .u64 x, .int .u64 y] w fun e w' => e = .returned (.tuple #[.int .u64 ((x * y / 18446744073709551616 : Nat) : Int), .int .u64 ((x * y % 18446744073709551616 : Nat) : Int)]) ∧ w' = w := Any.bits_Mul64 lays264 x y hx hy w
end Go.Proofs.YtldfejbmdonaoaaDoor.Sw