/- Joined by a program of mine from texts of this claim: Ax, Sw. -/
import Derived.Test.YtldfejbmdonaoaaGreatDoorZB8
import Derived.WalkLawsBesides
import Derived.Laws.FloatArith
import Derived.Deep.CutBlock
import Derived.Deep.DeepCutAuto
import Derived.Shelf.Strconv.Itoa0
import Derived.Shelf.LaysM
import Derived.Shelf.Strconv.Clone
import Derived.Shelf.Strconv.SyntaxError
import Derived.Shelf.LaysC
import Derived.Shelf.Strconv.ToError
import Derived.Shelf.Strconv.Lower
import Derived.Shelf.Strconv.RangeError
import Derived.Shelf.Strconv.ToErrorRange
import Derived.Shelf.Unicode.Decode
import Derived.Shelf.Bits.Mul64
import Derived.Shelf.Unicode.DecodeSlow
import Derived.Shelf.Unicode.DecodeAny
import Derived.Test.YtldfejbmdonaoaaGreatDoorProg
namespace Go.Proofs.YtldfejbmdonaoaaGreatDoor.Ax
open Go.RowKit YtldfejbmdonaoaaGreatDoorW.PrintWords YtldfejbmdonaoaaGreatDoorW.PrintLast YtldfejbmdonaoaaGreatDoorW.PrintMore Df
set_option linter.unusedVariables false
set_option linter.unusedSimpArgs false
theorem float_any (op : BinOp) (hop : op = .mul ∨ op = .quo) (x y : Nat) (w : World) : ∃ r n, (binOp op 33 (.float .f64 x) (.float .f64 y)).run Tryz.prog w = .ok (.float .f64 r) (w.drewN n) := by
  rcases hop with rfl | rfl
  · cases h : FloatKind.f64.format.mul x y with
    | some r => exact ⟨r, 0, by simp [binOp, Op.floatArith, h]; rfl⟩
    | none => exact ⟨_, 1, by simp [binOp, Op.floatArith, h, Sem.run]; rfl⟩
  · cases h : FloatKind.f64.format.div x y with
    | some r => exact ⟨r, 0, by simp [binOp, Op.floatArith, h]; rfl⟩
    | none => exact ⟨_, 1, by simp [binOp, Op.floatArith, h, Sem.run]; rfl⟩
noncomputable def flR (op : BinOp) (hop : op = .mul ∨ op = .quo) (x y : Nat) (w : World) : Nat := Classical.choose (float_any op hop x y w)
noncomputable def flN (op : BinOp) (hop : op = .mul ∨ op = .quo) (x y : Nat) (w : World) : Nat := Classical.choose (Classical.choose_spec (float_any op hop x y w))
theorem fl_spec (op : BinOp) (hop : op = .mul ∨ op = .quo) (x y : Nat) (w : World) : (binOp op 33 (.float .f64 x) (.float .f64 y)).run Tryz.prog w = .ok (.float .f64 (flR op hop x y w)) (w.drewN (flN op hop x y w)) :=
  Classical.choose_spec (Classical.choose_spec (float_any op hop x y w))
structure FP10 (W : World) (lim : Nat) : Prop where
  mk :: (out : 10 < lim ∧ ∃ B o, B < lim ∧ W.cell? ⟨10, 0, none⟩ = some (.slice (some ⟨B, o, none⟩) 23 23) ∧ ∀ j : Nat, j < 23 → ∃ x, W.cell? ⟨B, o + j, none⟩ = some (.float .f64 x))
theorem FP10.below {W W' : World} {lim : Nat} (h : FP10 W lim) (hb : Below lim W W') : FP10 W' lim := by
  obtain ⟨hg, B, o, hB, hc, hk⟩ := h.out
  refine ⟨hg, B, o, hB, by rw [hb.cell (p := ⟨_, 0, none⟩) hg]; exact hc, fun k h1 => ?_⟩
  obtain ⟨p, h3⟩ := hk k h1
  exact ⟨p, by rw [hb.cell (p := ⟨B, _, none⟩) hB]; exact h3⟩
def fl (d : Int) (ng : Bool) : Nat := if ng = true then Op.negFloat .f64 (floatOfInt .f64 d) else floatOfInt .f64 d
theorem fl_pos (d : Int) : Op.negFloat .f64 (floatOfInt .f64 d) = fl d true := (if_pos rfl).symm
theorem fl_neg (d : Int) : floatOfInt .f64 d = fl d false := (if_neg (by decide)).symm
def ExPost (d p : Int) (ng : Bool) (w : World) (e : Ending) (w' : World) : Prop := ∃ x ok, e = .returned (.tuple #[.float .f64 x, .bool ok]) ∧ (p = 0 → d < 4503599627370496 → ok = true ∧ x = fl d ng) ∧ (ok = true → d < 4503599627370496) ∧ Drawn0 w w'
set_option maxRecDepth 100000 in
set_option maxHeartbeats 4000000 in
theorem exact_walk (w : World) (d p : Int) (ng : Bool) (h0 : 0 ≤ d) (h1 : d ≤ 18446744073709551615) (hI : Info64 w w.heap.size) (hF : FP10 w w.heap.size) :
    Calls Tryz.prog 101 #[.int .u64 d, .int .i64 p, .bool ng] w (ExPost d p ng w) := by
  have i0 := hI.out.2.1
  have HW := Aside0.mk (Drawn0.refl w)
  have hneg : ∀ x (W : World), (Op.unary .neg (.float .f64 x)).run Tryz.prog W = .ok (.float .f64 (Op.negFloat .f64 x)) W := fun _ _ => rfl
  have hmul := fl_spec .mul (.inl rfl)
  have hquo := fl_spec .quo (.inr rfl)
  obtain ⟨_, B, o, _, hcB, hkB⟩ := hF.out
  by_cases hb : d / 4503599627370496 = 0
  · have d1 : (d / 4503599627370496 != 0) = false := bne_eq_false_iff_eq.mpr hb
    have HLT := Aside0.mk (show d < 4503599627370496 by omega)
    by_cases hp : p = 0
    · have d2 : (p == 0) = true := beq_iff_eq.mpr hp
      have HP := Aside0.mk hp
      clear hp hb
      cases ng
      all_goals as_aux_lemma =>
        go_enter Tryz.func101, Tryz.ntmps101
        go_wp2
        go_ret2
        first | exact ⟨_, _, rfl, fun _ _ => ⟨rfl, fl_pos d⟩, fun _ => HLT.out, HW.out⟩ | exact ⟨_, _, rfl, fun _ _ => ⟨rfl, fl_neg d⟩, fun _ => HLT.out, HW.out⟩
    · have d2 : (p == 0) = false := beq_eq_false_iff_ne.mpr hp
      have HP := Aside0.mk hp
      by_cases hpos : p > 0
      · have d3 : decide (p > 0) = true := decide_eq_true hpos
        by_cases h37 : p ≤ 37
        · have d4 : decide (p ≤ 37) = true := decide_eq_true h37
          have HK := Aside0.mk hkB
          have HP37 := Aside0.mk (And.intro hpos h37)
          clear hkB hp hb hpos h37
          cases ng
          all_goals as_aux_lemma =>
            go_enter Tryz.func101, Tryz.ntmps101
            go_upto_if 30 with (fail)
            go_cut [1, 6] (fun x1 x6 wc => ∃ (q : Int) (x : Nat) (m : Nat), x1 = .int .i64 q ∧ x6 = .float .f64 x ∧ Aside0 (0 ≤ q ∧ q ≤ 22) ∧ wc = w.drewN m)
            case first => as_aux_lemma =>
              by_cases h22 : p > 22
              · have d5 : decide (p > 22) = true := decide_eq_true h22
                obtain ⟨y1, hy1⟩ := HK.out (p - 22).toNat (by have := HP37.out; omega)
                have hy1' : w.cell? ⟨B, o + (p.toNat - 22), none⟩ = some (.float .f64 y1) := by rw [show p.toNat - 22 = (p - 22).toNat by omega]; exact hy1
                have q1 : 22 ≤ p := by omega
                have q2 : p ≤ 37 := HP37.out.2
                go_wp2
                go_meet
                case rel => exact ⟨_, _, _, rfl, rfl, ⟨by omega, by omega⟩, rfl⟩
              · have d5 : decide (p > 22) = false := decide_eq_false h22
                go_wp2
                go_meet
                case rel => exact ⟨p, _, 0, rfl, rfl, ⟨by have := HP37.out; omega, by omega⟩, rfl⟩
            case rest => as_aux_lemma =>
              clear d2 d3 d4
              obtain ⟨q, x, m, rfl, rfl, HQ, rfl⟩ := hcut
              obtain ⟨y2, hy2⟩ := HK.out q.toNat (by have := HQ.out; omega)
              have q1 : 0 ≤ q := HQ.out.1
              have q2 : q ≤ 22 := HQ.out.2
              go_wp2
              all_goals
                go_ret2
                exact ⟨_, _, rfl, fun h _ => absurd h HP.out, fun _ => HLT.out, by repeat (first | exact HW.out | apply Drawn0.step)⟩
        · have d4 : decide (p ≤ 37) = false := decide_eq_false h37
          have d6 : decide (p < 0) = false := decide_eq_false (by omega)
          clear hp hb
          clear hkB
          cases ng
          all_goals as_aux_lemma =>
            go_enter Tryz.func101, Tryz.ntmps101
            go_wp2
            all_goals
              go_ret2
              exact ⟨_, _, rfl, fun h _ => absurd h HP.out, fun _ => HLT.out, by repeat (first | exact HW.out | apply Drawn0.step)⟩
      · have d3 : decide (p > 0) = false := decide_eq_false hpos
        have d6 : decide (p < 0) = true := decide_eq_true (by omega)
        by_cases h22 : p ≥ -22
        · have d7 : decide (p ≥ -22) = true := decide_eq_true h22
          obtain ⟨y1, hy1⟩ := hkB (-p).toNat (by omega)
          have q1 : 0 ≤ -p := by omega
          have q2 : -p < 23 := by omega
          clear hp hb
          clear hkB
          cases ng
          all_goals as_aux_lemma =>
            go_enter Tryz.func101, Tryz.ntmps101
            go_wp2
            all_goals
              go_ret2
              exact ⟨_, _, rfl, fun h _ => absurd h HP.out, fun _ => HLT.out, by repeat (first | exact HW.out | apply Drawn0.step)⟩
        · have d7 : decide (p ≥ -22) = false := decide_eq_false h22
          clear hp hb
          clear hkB
          cases ng
          all_goals as_aux_lemma =>
            go_enter Tryz.func101, Tryz.ntmps101
            go_wp2
            all_goals
              go_ret2
              exact ⟨_, _, rfl, fun h _ => absurd h HP.out, fun _ => HLT.out, by repeat (first | exact HW.out | apply Drawn0.step)⟩
  · have d1 : (d / 4503599627370496 != 0) = true := bne_iff_ne.mpr hb
    have HL := Aside0.mk (show ¬ d < 4503599627370496 by omega)
    clear hb
    go_enter Tryz.func101, Tryz.ntmps101
    go_wp2
    go_ret2
    exact ⟨_, _, rfl, fun _ h => absurd h (Int.not_lt.mpr HL.out), fun h => absurd h (by decide), HW.out⟩
end Go.Proofs.YtldfejbmdonaoaaGreatDoor.Ax
namespace Go.Proofs.YtldfejbmdonaoaaGreatDoor.Sw
open Go.Proofs
open Go.Shelf
def lays129_ren : Go.Shelf.Ren := ⟨fun | 129 => 109 | n => n, fun | 53 => 109 | 3 => 3 | 4 => 4 | 46 => 92 | 5 => 5 | 9 => 9 | n => n, fun | n => n⟩
theorem lays129 : Go.Proofs.Lays.n129 Tryz.prog lays129_ren := {
  mixed := by kernel_rfl
  f129 := Tryz.func109.trans (congrArg some (by kernel_rfl))
  t3 := Tryz.underlying3
  a3 := Tryz.isAgg3
  z3 := Tryz.sizeOf3
  v3 := Tryz.zeroValue3
  t4 := Tryz.underlying4
  a4 := Tryz.isAgg4
  z4 := Tryz.sizeOf4
  v4 := Tryz.zeroValue4
  t5 := Tryz.underlying5
  a5 := Tryz.isAgg5
  z5 := Tryz.sizeOf5
  v5 := Tryz.zeroValue5
  t9 := Tryz.underlying9
  a9 := Tryz.isAgg9
  z9 := Tryz.sizeOf9
  v9 := Tryz.zeroValue9
  t46 := Tryz.underlying92
  a46 := Tryz.isAgg92
  z46 := Tryz.sizeOf92
  v46 := Tryz.zeroValue92
  t53 := Tryz.underlying109
  a53 := Tryz.isAgg109
  z53 := Tryz.sizeOf109
  v53 := Tryz.zeroValue109 }
theorem bits_Len64 (x : Int) (w : World) (h0 : 0 ≤ x) (h1 : x ≤ 18446744073709551615) :
    Calls Tryz.prog 109 #[.int .u64 x] w fun e w' => e = .returned (.int .i64 (Lib.bitLen x.toNat)) ∧ w' = w := Any.bits_Len64 lays129 x w h0 h1
def laysC245_ren : Go.Shelf.Ren := ⟨fun | 245 => 62 | 279 => 75 | 280 => 76 | 281 => 77 | 282 => 78 | 316 => 86 | 171 => 88 | 205 => 87 | 243 => 103 | 246 => 120 | 283 => 125 | 284 => 126 | 285 => 127 | 286 => 128 | 129 => 109 | 317 => 131 | 318 => 113 | 319 => 132 | 320 => 133 | 337 => 134 | 338 => 135 | n => n, fun | 9 => 9 | 3 => 3 | 75 => 86 | 167 => 105 | 4 => 4 | 168 => 106 | 210 => 120 | 37 => 53 | 0 => 0 | 127 => 146 | 145 => 149 | 143 => 147 | 2 => 2 | 171 => 179 | 53 => 109 | 5 => 5 | 173 => 181 | 212 => 188 | 51 => 112 | 20 => 20 | 213 => 189 | 46 => 92 | 232 => 193 | 233 => 194 | 80 => 195 | n => n, fun | 15 => 3 | 16 => 4 | 17 => 13 | 18 => 14 | 19 => 15 | n => n⟩
theorem laysC245 : Go.Proofs.LaysC.n245 Tryz.prog laysC245_ren := {
  mixed := by kernel_rfl
  f129 := Tryz.func109.trans (congrArg some (by kernel_rfl))
  f171 := Tryz.func88.trans (congrArg some (by kernel_rfl))
  f205 := Tryz.func87.trans (congrArg some (by kernel_rfl))
  f243 := Tryz.func103.trans (congrArg some (by kernel_rfl))
  f245 := Tryz.func62.trans (congrArg some (by kernel_rfl))
  f246 := Tryz.func120.trans (congrArg some (by kernel_rfl))
  f279 := Tryz.func75.trans (congrArg some (by kernel_rfl))
  f280 := Tryz.func76.trans (congrArg some (by kernel_rfl))
  f281 := Tryz.func77.trans (congrArg some (by kernel_rfl))
  f282 := Tryz.func78.trans (congrArg some (by kernel_rfl))
  f283 := Tryz.func125.trans (congrArg some (by kernel_rfl))
  f284 := Tryz.func126.trans (congrArg some (by kernel_rfl))
  f285 := Tryz.func127.trans (congrArg some (by kernel_rfl))
  f286 := Tryz.func128.trans (congrArg some (by kernel_rfl))
  f316 := Tryz.func86.trans (congrArg some (by kernel_rfl))
  f317 := Tryz.func131.trans (congrArg some (by kernel_rfl))
  f318 := Tryz.func113.trans (congrArg some (by kernel_rfl))
  f319 := Tryz.func132.trans (congrArg some (by kernel_rfl))
  f320 := Tryz.func133.trans (congrArg some (by kernel_rfl))
  f337 := Tryz.func134.trans (congrArg some (by kernel_rfl))
  f338 := Tryz.func135.trans (congrArg some (by kernel_rfl))
  t0 := Tryz.underlying0
  a0 := Tryz.isAgg0
  z0 := Tryz.sizeOf0
  v0 := Tryz.zeroValue0
  t2 := Tryz.underlying2
  a2 := Tryz.isAgg2
  z2 := Tryz.sizeOf2
  v2 := Tryz.zeroValue2
  t3 := Tryz.underlying3
  a3 := Tryz.isAgg3
  z3 := Tryz.sizeOf3
  v3 := Tryz.zeroValue3
  t4 := Tryz.underlying4
  a4 := Tryz.isAgg4
  z4 := Tryz.sizeOf4
  v4 := Tryz.zeroValue4
  t5 := Tryz.underlying5
  a5 := Tryz.isAgg5
  z5 := Tryz.sizeOf5
  v5 := Tryz.zeroValue5
  t9 := Tryz.underlying9
  a9 := Tryz.isAgg9
  z9 := Tryz.sizeOf9
  v9 := Tryz.zeroValue9
  t20 := Tryz.underlying20
  a20 := Tryz.isAgg20
  z20 := Tryz.sizeOf20
  v20 := Tryz.zeroValue20
  t37 := Tryz.underlying53
  a37 := Tryz.isAgg53
  z37 := Tryz.sizeOf53
  v37 := Tryz.zeroValue53
  t46 := Tryz.underlying92
  a46 := Tryz.isAgg92
  z46 := Tryz.sizeOf92
  v46 := Tryz.zeroValue92
  t51 := Tryz.underlying112
  a51 := Tryz.isAgg112
  z51 := Tryz.sizeOf112
  v51 := Tryz.zeroValue112
  t53 := Tryz.underlying109
  a53 := Tryz.isAgg109
  z53 := Tryz.sizeOf109
  v53 := Tryz.zeroValue109
  t75 := Tryz.underlying86
  a75 := Tryz.isAgg86
  z75 := Tryz.sizeOf86
  v75 := Tryz.zeroValue86
  t127 := Tryz.underlying146
  a127 := Tryz.isAgg146
  z127 := Tryz.sizeOf146
  v127 := Tryz.zeroValue146
  t143 := Tryz.underlying147
  a143 := Tryz.isAgg147
  z143 := Tryz.sizeOf147
  v143 := Tryz.zeroValue147
  t145 := Tryz.underlying149
  a145 := Tryz.isAgg149
  z145 := Tryz.sizeOf149
  v145 := Tryz.zeroValue149
  t167 := Tryz.underlying105
  a167 := Tryz.isAgg105
  z167 := Tryz.sizeOf105
  v167 := Tryz.zeroValue105
  t168 := Tryz.underlying106
  a168 := Tryz.isAgg106
  z168 := Tryz.sizeOf106
  v168 := Tryz.zeroValue106
  t171 := Tryz.underlying179
  a171 := Tryz.isAgg179
  z171 := Tryz.sizeOf179
  v171 := Tryz.zeroValue179
  t173 := Tryz.underlying181
  a173 := Tryz.isAgg181
  z173 := Tryz.sizeOf181
  v173 := Tryz.zeroValue181
  t210 := Tryz.underlying120
  a210 := Tryz.isAgg120
  z210 := Tryz.sizeOf120
  v210 := Tryz.zeroValue120
  t212 := Tryz.underlying188
  a212 := Tryz.isAgg188
  z212 := Tryz.sizeOf188
  v212 := Tryz.zeroValue188
  t213 := Tryz.underlying189
  a213 := Tryz.isAgg189
  z213 := Tryz.sizeOf189
  t232 := Tryz.underlying193
  a232 := Tryz.isAgg193
  z232 := Tryz.sizeOf193
  v232 := Tryz.zeroValue193
  t233 := Tryz.underlying194
  a233 := Tryz.isAgg194
  z233 := Tryz.sizeOf194
  v233 := Tryz.zeroValue194
  g15 := by kernel_rfl
  g16 := by kernel_rfl
  g17 := by kernel_rfl
  g18 := by kernel_rfl
  g19 := by kernel_rfl
  t80 := Tryz.underlying195
  a80 := Tryz.isAgg195
  z80 := Tryz.sizeOf195
  v80 := Tryz.zeroValue195
  i0 := by kernel_rfl
  i2 := by kernel_rfl
  i3 := by kernel_rfl
  i4 := by kernel_rfl
  i5 := by kernel_rfl
  i9 := by kernel_rfl
  i20 := by kernel_rfl
  i37 := by kernel_rfl
  i46 := by kernel_rfl
  i51 := by kernel_rfl
  i53 := by kernel_rfl
  i75 := by kernel_rfl
  i80 := by kernel_rfl
  i127 := by kernel_rfl
  i143 := by kernel_rfl
  i145 := by kernel_rfl
  i167 := by kernel_rfl
  i168 := by kernel_rfl
  i171 := by kernel_rfl
  i173 := by kernel_rfl
  i210 := by kernel_rfl
  i212 := by kernel_rfl
  i232 := by kernel_rfl
  i233 := by kernel_rfl
  m15 := by kernel_rfl
  m16 := by kernel_rfl
  m17 := by kernel_rfl
  m18 := by kernel_rfl
  m19 := by kernel_rfl
  c0 := by kernel_rfl
  c2 := by kernel_rfl
  c3 := by kernel_rfl
  c4 := by kernel_rfl
  c5 := by kernel_rfl
  c9 := by kernel_rfl
  c20 := by kernel_rfl
  c37 := by kernel_rfl
  c46 := by kernel_rfl
  c51 := by kernel_rfl
  c53 := by kernel_rfl
  c75 := by kernel_rfl
  c80 := by kernel_rfl
  c127 := by kernel_rfl
  c143 := by kernel_rfl
  c145 := by kernel_rfl
  c167 := by kernel_rfl
  c168 := by kernel_rfl
  c171 := by kernel_rfl
  c173 := by kernel_rfl
  c210 := by kernel_rfl
  c212 := by kernel_rfl
  c213 := by kernel_rfl
  c232 := by kernel_rfl
  c233 := by kernel_rfl }
open Go.RowKit in
theorem strconv_toError_syntax (fn s : ByteArray) (base bits : Int) (ev : Value) (w : World) (hlim : s.size ≤ 281474976710656) (hv : w.cell? ⟨3, 0, none⟩ = some ev) (hev : ev = .nilIface ∨ ∃ te pe, ev = .iface te pe) :
    Calls Tryz.prog 62 #[.string fn, .string s, .int .i64 base, .int .i64 bits, .iface 105 (.int .i64 2)] w fun e w' => ∃ N, e = .returned (.iface 106 (.pointer (some ⟨N, 0, none⟩))) ∧ w.heap.size ≤ N ∧ w'.heap[N]? = some (.cells #[.string fn, .string s, ev] 120 (0, 0)) ∧ Below w.heap.size w w' := Any.strconv_toError_syntax laysC245 fn s base bits ev w hlim hv hev
open Go.RowKit in
theorem strconv_toError_range (fn s : ByteArray) (base bits : Int) (ev : Value) (w : World) (hlim : s.size ≤ 281474976710656) (hv : w.cell? ⟨4, 0, none⟩ = some ev) (hev : ev = .nilIface ∨ ∃ te pe, ev = .iface te pe) :
    Calls Tryz.prog 62 #[.string fn, .string s, .int .i64 base, .int .i64 bits, .iface 105 (.int .i64 1)] w fun e w' => ∃ N, e = .returned (.iface 106 (.pointer (some ⟨N, 0, none⟩))) ∧ w.heap.size ≤ N ∧ w'.heap[N]? = some (.cells #[.string fn, .string s, ev] 120 (0, 0)) ∧ Below w.heap.size w w' := Any.strconv_toError_range laysC245 fn s base bits ev w hlim hv hev
def lays264_ren : Go.Shelf.Ren := ⟨fun | 264 => 121 | n => n, fun | 53 => 109 | 46 => 92 | n => n, fun | n => n⟩
theorem lays264 : Go.Proofs.Lays.n264 Tryz.prog lays264_ren := {
  mixed := by kernel_rfl
  f264 := Tryz.func121.trans (congrArg some (by kernel_rfl))
  t46 := Tryz.underlying92
  a46 := Tryz.isAgg92
  z46 := Tryz.sizeOf92
  v46 := Tryz.zeroValue92
  t53 := Tryz.underlying109
  a53 := Tryz.isAgg109
  z53 := Tryz.sizeOf109
  v53 := Tryz.zeroValue109 }
open Go.RowKit Go.Lib in
theorem bits_Mul64 (x y : Nat) (hx : x < 18446744073709551616) (hy : y < 18446744073709551616) (w : World) :
    Calls Tryz.prog 121 #[.int .u64 x, .int .u64 y] w fun e w' => e = .returned (.tuple #[.int .u64 ((x * y / 18446744073709551616 : Nat) : Int), .int .u64 ((x * y % 18446744073709551616 : Nat) : Int)]) ∧ w' = w := Any.bits_Mul64 lays264 x y hx hy w
end Go.Proofs.YtldfejbmdonaoaaGreatDoor.Sw