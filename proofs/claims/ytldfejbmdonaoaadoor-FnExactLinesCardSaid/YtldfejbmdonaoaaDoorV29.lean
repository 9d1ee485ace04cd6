/- Joined by a program of mine from texts of this claim: Ax, Sw. -/
import Derived.Test.YtldfejbmdonaoaaDoorV25
import Derived.WalkLawsBesides
import Derived.Laws.FloatArith
import Derived.Deep.CutBlock
import Derived.Deep.DeepCutAuto
import Derived.Shelf.Strconv.Itoa0
import Derived.Shelf.LaysM
import Derived.Shelf.Strconv.Clone
import Derived.Shelf.Strconv.SyntaxError
import Derived.Shelf.LaysC
import Derived.Shelf.Strconv.ToError
import Derived.Shelf.Strconv.Lower
import Derived.Shelf.Strconv.RangeError
import Derived.Shelf.Strconv.ToErrorRange
import Derived.Shelf.Bits.Mul64
import Derived.Test.YtldfejbmdonaoaaDoorProg
namespace Go.Proofs.YtldfejbmdonaoaaDoor.Ax
open Go.RowKit YtldfejbmdonaoaaDoorW.PrintWords YtldfejbmdonaoaaDoorW.PrintLast YtldfejbmdonaoaaDoorW.PrintMore Df
set_option linter.unusedVariables false
set_option linter.unusedSimpArgs false
theorem float_any (op : BinOp) (hop : op = .mul ∨ op = .quo) (x y : Nat) (w : World) : ∃ r n, (binOp op 28 (.float .f64 x) (.float .f64 y)).run Tryd.prog w = .ok (.float .f64 r) (w.drewN n) := by
  rcases hop with rfl | rfl
  · cases h : FloatKind.f64.format.mul x y with
    | some r => exact ⟨r, 0, by simp [binOp, Op.floatArith, h]; rfl⟩
    | none => exact ⟨_, 1, by simp [binOp, Op.floatArith, h, Sem.run]; rfl⟩
  · cases h : FloatKind.f64.format.div x y with
    | some r => exact ⟨r, 0, by simp [binOp, Op.floatArith, h]; rfl⟩
    | none => exact ⟨_, 1, by simp [binOp, Op.floatArith, h, Sem.run]; rfl⟩
noncomputable def flR (op : BinOp) (hop : op = .mul ∨ op = .quo) (x y : Nat) (w : World) : Nat := Classical.choose (float_any op hop x y w)
noncomputable def flN (op : BinOp) (hop : op = .mul ∨ op = .quo) (x y : Nat) (w : World) : Nat := Classical.choose (Classical.choose_spec (float_any op hop x y w))
theorem fl_spec (op : BinOp) (hop : op = .mul ∨ op = .quo) (x y : Nat) (w : World) : (binOp op 28 (.float .f64 x) (.float .f64 y)).run Tryd.prog w = .ok (.float .f64 (flR op hop x y w)) (w.drewN (flN op hop x y w)) :=
  Classical.choose_spec (Classical.choose_spec (float_any op hop x y w))
structure FP10 (W : World) (lim : Nat) : Prop where
  mk :: (out : 8 < lim ∧ ∃ B o, B < lim ∧ W.cell? ⟨8, 0, none⟩ = some (.slice (some ⟨B, o, none⟩) 23 23) ∧ ∀ j : Nat, j < 23 → ∃ x, W.cell? ⟨B, o + j, none⟩ = some (.float .f64 x))
theorem FP10.below {W W' : World} {lim : Nat} (h : FP10 W lim) (hb : Below lim W W') : FP10 W' lim := by
  obtain ⟨hg, B, o, hB, hc, hk⟩ := h.out
  refine ⟨hg, B, o, hB, by rw [hb.cell (p := ⟨_, 0, none⟩) hg]; exact hc, fun k h1 => ?_⟩
  obtain ⟨p, h3⟩ := hk k h1
  exact ⟨p, by rw [hb.cell (p := ⟨B, _, none⟩) hB]; exact h3⟩
def fl (d : Int) (ng : Bool) : Nat := if ng = true then Op.negFloat .f64 (floatOfInt .f64 d) else floatOfInt .f64 d
theorem fl_pos (d : Int) : Op.negFloat .f64 (floatOfInt .f64 d) = fl d true := (if_pos rfl).symm
theorem fl_neg (d : Int) : floatOfInt .f64 d = fl d false := (if_neg (by decide)).symm
def ExPost (d p : Int) (ng : Bool) (w : World) (e : Ending) (w' : World) : Prop := ∃ x ok, e = .returned (.tuple #[.float .f64 x, .bool ok]) ∧ (p = 0 → d < 4503599627370496 → ok = true ∧ x = fl d ng) ∧ (ok = true → d < 4503599627370496) ∧ Drawn0 w w'
set_option maxRecDepth 100000 in
set_option maxHeartbeats 4000000 in
theorem exact_walk (w : World) (d p : Int) (ng : Bool) (h0 : 0 ≤ d) (h1 : d ≤ 18446744073709551615) (hI : Info64 w w.heap.size) (hF : FP10 w w.heap.size) :
    Calls Tryd.prog 81 #[.int .u64 d, .int .i64 p, .bool ng] w (ExPost d p ng w) := by
  have i0 := hI.out.2.1
  have HW := Aside0.mk (Drawn0.refl w)
  have hneg : ∀ x (W : World), (Op.unary .neg (.float .f64 x)).run Tryd.prog W = .ok (.float .f64 (Op.negFloat .f64 x)) W := fun _ _ => rfl
  have hmul := fl_spec .mul (.inl rfl)
  have hquo := fl_spec .quo (.inr rfl)
  obtain ⟨_, B, o, _, hcB, hkB⟩ := hF.out
  by_cases hb : d / 4503599627370496 = 0
  · have d1 : (d / 4503599627370496 != 0) = false := bne_eq_false_iff_eq.mpr hb
    have HLT := Aside0.mk (show d < 4503599627370496 by omega)
    by_cases hp : p = 0
    · have d2 : (p == 0) = true := beq_iff_eq.mpr hp
      have HP := Aside0.mk hp
      clear hp hb
      cases ng
      all_goals as_aux_lemma =>
        go_enter Tryd.func81, Tryd.ntmps81
        go_wp2
        go_ret2
        first | exact ⟨_, _, rfl, fun _ _ => ⟨rfl, fl_pos d⟩, fun _ => HLT.out, HW.out⟩ | exact ⟨_, _, rfl, fun _ _ => ⟨rfl, fl_neg d⟩, fun _ => HLT.out, HW.out⟩
    · have d2 : (p == 0) = false := beq_eq_false_iff_ne.mpr hp
      have HP := Aside0.mk hp
      by_cases hpos : p > 0
      · have d3 : decide (p > 0) = true := decide_eq_true hpos
        by_cases h37 : p ≤ 37
        · have d4 : decide (p ≤ 37) = true := decide_eq_true h37
          have HK := Aside0.mk hkB
          have HP37 := Aside0.mk (And.intro hpos h37)
          clear hkB hp hb hpos h37
          cases ng
          all_goals as_aux_lemma =>
            go_enter Tryd.func81, Tryd.ntmps81
            go_upto_if 30 with (fail)
            go_cut [1, 6] (fun x1 x6 wc => ∃ (q : Int) (x : Nat) (m : Nat), x1 = .int .i64 q ∧ x6 = .float .f64 x ∧ Aside0 (0 ≤ q ∧ q ≤ 22) ∧ wc = w.drewN m)
            case first => as_aux_lemma =>
              by_cases h22 : p > 22
              · have d5 : decide (p > 22) = true := decide_eq_true h22
                obtain ⟨y1, hy1⟩ := HK.out (p - 22).toNat (by have := HP37.out; omega)
                have hy1' : w.cell? ⟨B, o + (p.toNat - 22), none⟩ = some (.float .f64 y1) := by rw [show p.toNat - 22 = (p - 22).toNat by omega]; exact hy1
                have q1 : 22 ≤ p := by omega
                have q2 : p ≤ 37 := HP37.out.2
                go_wp2
                go_meet
                case rel => exact ⟨_, _, _, rfl, rfl, ⟨by omega, by omega⟩, rfl⟩
              · have d5 : decide (p > 22) = false := decide_eq_false h22
                go_wp2
                go_meet
                case rel => exact ⟨p, _, 0, rfl, rfl, ⟨by have := HP37.out; omega, by omega⟩, rfl⟩
            case rest => as_aux_lemma =>
              clear d2 d3 d4
              obtain ⟨q, x, m, rfl, rfl, HQ, rfl⟩ := hcut
              obtain ⟨y2, hy2⟩ := HK.out q.toNat (by have := HQ.out; omega)
              have q1 : 0 ≤ q := HQ.out.1
              have q2 : q ≤ 22 := HQ.out.2
              go_wp2
              all_goals
                go_ret2
                exact ⟨_, _, rfl, fun h _ => absurd h HP.out, fun _ => HLT.out, by repeat (first | exact HW.out | apply Drawn0.step)⟩
        · have d4 : decide (p ≤ 37) = false := decide_eq_false h37
          have d6 : decide (p < 0) = false := decide_eq_false (by omega)
          clear hp hb
          clear hkB
          cases ng
          all_goals as_aux_lemma =>
            go_enter Tryd.func81, Tryd.ntmps81
            go_wp2
            all_goals
              go_ret2
              exact ⟨_, _, rfl, fun h _ => absurd h HP.out, fun _ => HLT.out, by repeat (first | exact HW.out | apply Drawn0.step)⟩
      · have d3 : decide (p > 0) = false := decide_eq_false hpos
        have d6 : decide (p < 0) = true := decide_eq_true (by omega)
        by_cases h22 : p ≥ -22
        · have d7 : decide (p ≥ -22) = true := decide_eq_true h22
          obtain ⟨y1, hy1⟩ := hkB (-p).toNat (by omega)
          have q1 : 0 ≤ -p := by omega
          have q2 : -p < 23 := by omega
          clear hp hb
          clear hkB
          cases ng
          all_goals as_aux_lemma =>
            go_enter Tryd.func81, Tryd.ntmps81
            go_wp2
            all_goals
              go_ret2
              exact ⟨_, _, rfl, fun h _ => absurd h HP.out, fun _ => HLT.out, by repeat (first | exact HW.out | apply Drawn0.step)⟩
        · have d7 : decide (p ≥ -22) = false := decide_eq_false h22
          clear hp hb
          clear hkB
          cases ng
          all_goals as_aux_lemma =>
            go_enter Tryd.func81, Tryd.ntmps81
            go_wp2
            all_goals
              go_ret2
              exact ⟨_, _, rfl, fun h _ => absurd h HP.out, fun _ => HLT.out, by repeat (first | exact HW.out | apply Drawn0.step)⟩
  · have d1 : (d / 4503599627370496 != 0) = true := bne_iff_ne.mpr hb
    have HL := Aside0.mk (show ¬ d < 4503599627370496 by omega)
    clear hb
    go_enter Tryd.func81, Tryd.ntmps81
    go_wp2
    go_ret2
    exact ⟨_, _, rfl, fun _ h => absurd h (Int.not_lt.mpr HL.out), fun h => absurd h (by decide), HW.out⟩
end Go.Proofs.YtldfejbmdonaoaaDoor.Ax
namespace Go.Proofs.YtldfejbmdonaoaaDoor.Sw
open Go.Proofs
open Go.Shelf
def lays129_ren : Go.Shelf.Ren := ⟨fun | 129 => 89 | n => n, fun | 53 => 37 | 3 => 3 | 4 => 4 | 46 => 103 | 5 => 5 | 9 => 9 | n => n, fun | n => n⟩
theorem lays129 : Go.Proofs.Lays.n129 Tryd.prog lays129_ren := {
  mixed := by kernel_rfl
  f129 := Tryd.func89.trans (congrArg some (by kernel_rfl))
  t3 := Tryd.underlying3
  a3 := Tryd.isAgg3
  z3 := Tryd.sizeOf3
  v3 := Tryd.zeroValue3
  t4 := Tryd.underlying4
  a4 := Tryd.isAgg4
  z4 := Tryd.sizeOf4
  v4 := Tryd.zeroValue4
  t5 := Tryd.underlying5
  a5 := Tryd.isAgg5
  z5 := Tryd.sizeOf5
  v5 := Tryd.zeroValue5
  t9 := Tryd.underlying9
  a9 := Tryd.isAgg9
  z9 := Tryd.sizeOf9
  v9 := Tryd.zeroValue9
  t46 := Tryd.underlying103
  a46 := Tryd.isAgg103
  z46 := Tryd.sizeOf103
  v46 := Tryd.zeroValue103
  t53 := Tryd.underlying37
  a53 := Tryd.isAgg37
  z53 := Tryd.sizeOf37
  v53 := Tryd.zeroValue37 }
theorem bits_Len64 (x : Int) (w : World) (h0 : 0 ≤ x) (h1 : x ≤ 18446744073709551615) :
    Calls Tryd.prog 89 #[.int .u64 x] w fun e w' => e = .returned (.int .i64 (Lib.bitLen x.toNat)) ∧ w' = w := Any.bits_Len64 lays129 x w h0 h1
def laysC245_ren : Go.Shelf.Ren := ⟨fun | 245 => 46 | 279 => 58 | 280 => 59 | 281 => 60 | 282 => 61 | 316 => 66 | 171 => 68 | 205 => 67 | 243 => 83 | 246 => 100 | 283 => 105 | 284 => 106 | 285 => 107 | 286 => 108 | 129 => 89 | 317 => 111 | 318 => 93 | 319 => 112 | 320 => 113 | 337 => 114 | 338 => 115 | n => n, fun | 9 => 9 | 3 => 3 | 75 => 71 | 167 => 96 | 4 => 4 | 168 => 97 | 210 => 110 | 37 => 54 | 0 => 0 | 127 => 135 | 145 => 138 | 143 => 136 | 2 => 2 | 171 => 166 | 53 => 37 | 5 => 5 | 173 => 168 | 212 => 175 | 51 => 104 | 20 => 20 | 213 => 176 | 46 => 103 | 232 => 180 | 233 => 181 | 80 => 182 | n => n, fun | 15 => 1 | 16 => 2 | 17 => 11 | 18 => 12 | 19 => 13 | n => n⟩
theorem laysC245 : Go.Proofs.LaysC.n245 Tryd.prog laysC245_ren := {
  mixed := by kernel_rfl
  f129 := Tryd.func89.trans (congrArg some (by kernel_rfl))
  f171 := Tryd.func68.trans (congrArg some (by kernel_rfl))
  f205 := Tryd.func67.trans (congrArg some (by kernel_rfl))
  f243 := Tryd.func83.trans (congrArg some (by kernel_rfl))
  f245 := Tryd.func46.trans (congrArg some (by kernel_rfl))
  f246 := Tryd.func100.trans (congrArg some (by kernel_rfl))
  f279 := Tryd.func58.trans (congrArg some (by kernel_rfl))
  f280 := Tryd.func59.trans (congrArg some (by kernel_rfl))
  f281 := Tryd.func60.trans (congrArg some (by kernel_rfl))
  f282 := Tryd.func61.trans (congrArg some (by kernel_rfl))
  f283 := Tryd.func105.trans (congrArg some (by kernel_rfl))
  f284 := Tryd.func106.trans (congrArg some (by kernel_rfl))
  f285 := Tryd.func107.trans (congrArg some (by kernel_rfl))
  f286 := Tryd.func108.trans (congrArg some (by kernel_rfl))
  f316 := Tryd.func66.trans (congrArg some (by kernel_rfl))
  f317 := Tryd.func111.trans (congrArg some (by kernel_rfl))
  f318 := Tryd.func93.trans (congrArg some (by kernel_rfl))
  f319 := Tryd.func112.trans (congrArg some (by kernel_rfl))
  f320 := Tryd.func113.trans (congrArg some (by kernel_rfl))
  f337 := Tryd.func114.trans (congrArg some (by kernel_rfl))
  f338 := Tryd.func115.trans (congrArg some (by kernel_rfl))
  t0 := Tryd.underlying0
  a0 := Tryd.isAgg0
  z0 := Tryd.sizeOf0
  v0 := Tryd.zeroValue0
  t2 := Tryd.underlying2
  a2 := Tryd.isAgg2
  z2 := Tryd.sizeOf2
  v2 := Tryd.zeroValue2
  t3 := Tryd.underlying3
  a3 := Tryd.isAgg3
  z3 := Tryd.sizeOf3
  v3 := Tryd.zeroValue3
  t4 := Tryd.underlying4
  a4 := Tryd.isAgg4
  z4 := Tryd.sizeOf4
  v4 := Tryd.zeroValue4
  t5 := Tryd.underlying5
  a5 := Tryd.isAgg5
  z5 := Tryd.sizeOf5
  v5 := Tryd.zeroValue5
  t9 := Tryd.underlying9
  a9 := Tryd.isAgg9
  z9 := Tryd.sizeOf9
  v9 := Tryd.zeroValue9
  t20 := Tryd.underlying20
  a20 := Tryd.isAgg20
  z20 := Tryd.sizeOf20
  v20 := Tryd.zeroValue20
  t37 := Tryd.underlying54
  a37 := Tryd.isAgg54
  z37 := Tryd.sizeOf54
  v37 := Tryd.zeroValue54
  t46 := Tryd.underlying103
  a46 := Tryd.isAgg103
  z46 := Tryd.sizeOf103
  v46 := Tryd.zeroValue103
  t51 := Tryd.underlying104
  a51 := Tryd.isAgg104
  z51 := Tryd.sizeOf104
  v51 := Tryd.zeroValue104
  t53 := Tryd.underlying37
  a53 := Tryd.isAgg37
  z53 := Tryd.sizeOf37
  v53 := Tryd.zeroValue37
  t75 := Tryd.underlying71
  a75 := Tryd.isAgg71
  z75 := Tryd.sizeOf71
  v75 := Tryd.zeroValue71
  t127 := Tryd.underlying135
  a127 := Tryd.isAgg135
  z127 := Tryd.sizeOf135
  v127 := Tryd.zeroValue135
  t143 := Tryd.underlying136
  a143 := Tryd.isAgg136
  z143 := Tryd.sizeOf136
  v143 := Tryd.zeroValue136
  t145 := Tryd.underlying138
  a145 := Tryd.isAgg138
  z145 := Tryd.sizeOf138
  v145 := Tryd.zeroValue138
  t167 := Tryd.underlying96
  a167 := Tryd.isAgg96
  z167 := Tryd.sizeOf96
  v167 := Tryd.zeroValue96
  t168 := Tryd.underlying97
  a168 := Tryd.isAgg97
  z168 := Tryd.sizeOf97
  v168 := Tryd.zeroValue97
  t171 := Tryd.underlying166
  a171 := Tryd.isAgg166
  z171 := Tryd.sizeOf166
  v171 := Tryd.zeroValue166
  t173 := Tryd.underlying168
  a173 := Tryd.isAgg168
  z173 := Tryd.sizeOf168
  v173 := Tryd.zeroValue168
  t210 := Tryd.underlying110
  a210 := Tryd.isAgg110
  z210 := Tryd.sizeOf110
  v210 := Tryd.zeroValue110
  t212 := Tryd.underlying175
  a212 := Tryd.isAgg175
  z212 := Tryd.sizeOf175
  v212 := Tryd.zeroValue175
  t213 := Tryd.underlying176
  a213 := Tryd.isAgg176
  z213 := Tryd.sizeOf176
  t232 := Tryd.underlying180
  a232 := Tryd.isAgg180
  z232 := Tryd.sizeOf180
  v232 := Tryd.zeroValue180
  t233 := Tryd.underlying181
  a233 := Tryd.isAgg181
  z233 := Tryd.sizeOf181
  v233 := Tryd.zeroValue181
  g15 := by kernel_rfl
  g16 := by kernel_rfl
  g17 := by kernel_rfl
  g18 := by kernel_rfl
  g19 := by kernel_rfl
  t80 := Tryd.underlying182
  a80 := Tryd.isAgg182
  z80 := Tryd.sizeOf182
  v80 := Tryd.zeroValue182
  i0 := by kernel_rfl
  i2 := by kernel_rfl
  i3 := by kernel_rfl
  i4 := by kernel_rfl
  i5 := by kernel_rfl
  i9 := by kernel_rfl
  i20 := by kernel_rfl
  i37 := by kernel_rfl
  i46 := by kernel_rfl
  i51 := by kernel_rfl
  i53 := by kernel_rfl
  i75 := by kernel_rfl
  i80 := by kernel_rfl
  i127 := by kernel_rfl
  i143 := by kernel_rfl
  i145 := by kernel_rfl
  i167 := by kernel_rfl
  i168 := by kernel_rfl
  i171 := by kernel_rfl
  i173 := by kernel_rfl
  i210 := by kernel_rfl
  i212 := by kernel_rfl
  i232 := by kernel_rfl
  i233 := by kernel_rfl
  m15 := by kernel_rfl
  m16 := by kernel_rfl
  m17 := by kernel_rfl
  m18 := by kernel_rfl
  m19 := by kernel_rfl
  c0 := by kernel_rfl
  c2 := by kernel_rfl
  c3 := by kernel_rfl
  c4 := by kernel_rfl
  c5 := by kernel_rfl
  c9 := by kernel_rfl
  c20 := by kernel_rfl
  c37 := by kernel_rfl
  c46 := by kernel_rfl
  c51 := by kernel_rfl
  c53 := by kernel_rfl
  c75 := by kernel_rfl
  c80 := by kernel_rfl
  c127 := by kernel_rfl
  c143 := by kernel_rfl
  c145 := by kernel_rfl
  c167 := by kernel_rfl
  c168 := by kernel_rfl
  c171 := by kernel_rfl
  c173 := by kernel_rfl
  c210 := by kernel_rfl
  c212 := by kernel_rfl
  c213 := by kernel_rfl
  c232 := by kernel_rfl
  c233 := by kernel_rfl }
open Go.RowKit in
theorem strconv_toError_syntax (fn s : ByteArray) (base bits : Int) (ev : Value) (w : World) (hlim : s.size ≤ 281474976710656) (hv : w.cell? ⟨1, 0, none⟩ = some ev) (hev : ev = .nilIface ∨ ∃ te pe, ev = .iface te pe) :
    Calls Tryd.prog 46 #[.string fn, .string s, .int .i64 base, .int .i64 bits, .iface 96 (.int .i64 2)] w fun e w' => ∃ N, e = .returned (.iface 97 (.pointer (some ⟨N, 0, none⟩))) ∧ w.heap.size ≤ N ∧ w'.heap[N]? = some (.cells #[.string fn, .string s, ev] 110 (0, 0)) ∧ Below w.heap.size w w' := Any.strconv_toError_syntax laysC245 fn s base bits ev w hlim hv hev
open Go.RowKit in
theorem strconv_toError_range (fn s : ByteArray) (base bits : Int) (ev : Value) (w : World) (hlim : s.size ≤ 281474976710656) (hv : w.cell? ⟨2, 0, none⟩ = some ev) (hev : ev = .nilIface ∨ ∃ te pe, ev = .iface te pe) :
    Calls Tryd.prog 46 #[.string fn, .string s, .int .i64 base, .int .i64 bits, .iface 96 (.int .i64 1)] w fun e w' => ∃ N, e = .returned (.iface 97 (.pointer (some ⟨N, 0, none⟩))) ∧ w.heap.size ≤ N ∧ w'.heap[N]? = some (.cells #[.string fn, .string s, ev] 110 (0, 0)) ∧ Below w.heap.size w w' := Any.strconv_toError_range laysC245 fn s base bits ev w hlim hv hev
def lays264_ren : Go.Shelf.Ren := ⟨fun | 264 => 101 | n => n, fun | 53 => 37 | 46 => 103 | n => n, fun | n => n⟩
theorem lays264 : Go.Proofs.Lays.n264 Tryd.prog lays264_ren := {
  mixed := by kernel_rfl
  f264 := Tryd.func101.trans (congrArg some (by kernel_rfl))
  t46 := Tryd.underlying103
  a46 := Tryd.isAgg103
  z46 := Tryd.sizeOf103
  v46 := Tryd.zeroValue103
  t53 := Tryd.underlying37
  a53 := Tryd.isAgg37
  z53 := Tryd.sizeOf37
  v53 := Tryd.zeroValue37 }
open Go.RowKit Go.Lib in
theorem bits_Mul64 (x y : Nat) (hx : x < 18446744073709551616) (hy : y < 18446744073709551616) (w : World) :
    Calls Tryd.prog 101 #[.int .u64 x, .int .u64 y] w fun e w' => e = .returned (.tuple #[.int .u64 ((x * y / 18446744073709551616 : Nat) : Int), .int .u64 ((x * y % 18446744073709551616 : Nat) : Int)]) ∧ w' = w := Any.bits_Mul64 lays264 x y hx hy w
end Go.Proofs.YtldfejbmdonaoaaDoor.Sw