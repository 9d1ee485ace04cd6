/- Joined by a program of mine from texts of this claim: Ax. -/
import Derived.Test.YtldfejbmdonaoaaDoorX16
import Derived.WalkLawsBesides
import Derived.Laws.FloatArith
import Derived.Deep.CutBlock
import Derived.Deep.DeepCutAuto
namespace Go.Proofs.YtldfejbmdonaoaaDoor.Ax
open Go.RowKit YtldfejbmdonaoaaDoorW.PrintWords YtldfejbmdonaoaaDoorW.PrintLast YtldfejbmdonaoaaDoorW.PrintMore Df
set_option linter.unusedVariables false
set_option linter.unusedSimpArgs false
theorem float_any (op : BinOp) (hop : op = .mul ∨ op = .quo) (x y : Nat) (w : World) : ∃ r n, (binOp op 28 (.float .f64 x) (.float .f64 y)).run Tryd.prog w = .ok (.float .f64 r) (w.drewN n) := by
  rcases hop with rfl | rfl
  · cases h : FloatKind.f64.format.mul x y with
    | some r => exact ⟨r, 0, by simp [binOp, Op.floatArith, h]; rfl⟩
    | none => exact ⟨_, 1, by simp [binOp, Op.floatArith, h, Sem.run]; rfl⟩
  · cases h : FloatKind.f64.format.div x y with
    | some r => exact ⟨r, 0, by simp [binOp, Op.floatArith, h]; rfl⟩
    | none => exact ⟨_, 1, by simp [binOp, Op.floatArith, h, Sem.run]; rfl⟩
noncomputable def flR (op : BinOp) (hop : op = .mul ∨ op = .quo) (x y : Nat) (w : World) : Nat := Classical.choose (float_any op hop x y w)
noncomputable def flN (op : BinOp) (hop : op = .mul ∨ op = .quo) (x y : Nat) (w : World) : Nat := Classical.choose (Classical.choose_spec (float_any op hop x y w))
theorem fl_spec (op : BinOp) (hop : op = .mul ∨ op = .quo) (x y : Nat) (w : World) : (binOp op 28 (.float .f64 x) (.float .f64 y)).run Tryd.prog w = .ok (.float .f64 (flR op hop x y w)) (w.drewN (flN op hop x y w)) :=
  Classical.choose_spec (Classical.choose_spec (float_any op hop x y w))
structure FP10 (W : World) (lim : Nat) : Prop where
  mk :: (out : 8 < lim ∧ ∃ B o, B < lim ∧ W.cell? ⟨8, 0, none⟩ = some (.slice (some ⟨B, o, none⟩) 23 23) ∧ ∀ j : Nat, j < 23 → ∃ x, W.cell? ⟨B, o + j, none⟩ = some (.float .f64 x))
theorem FP10.below {W W' : World} {lim : Nat} (h : FP10 W lim) (hb : Below lim W W') : FP10 W' lim := by
  obtain ⟨hg, B, o, hB, hc, hk⟩ := h.out
  refine ⟨hg, B, o, hB, by rw [hb.cell (p := ⟨_, 0, none⟩) hg]; exact hc, fun k h1 => ?_⟩
  obtain ⟨p, h3⟩ := hk k h1
  exact ⟨p, by rw [hb.cell (p := ⟨B, _, none⟩) hB]; exact h3⟩
def fl (d : Int) (ng : Bool) : Nat := if ng = true then Op.negFloat .f64 (floatOfInt .f64 d) else floatOfInt .f64 d
theorem fl_pos (d : Int) : Op.negFloat .f64 (floatOfInt .f64 d) = fl d true := (if_pos rfl).symm
theorem fl_neg (d : Int) : floatOfInt .f64 d = fl d false := (if_neg (by decide)).symm
def ExPost (d p : Int) (ng : Bool) (w : World) (e : Ending) (w' : World) : Prop := ∃ x ok, e = .returned (.tuple #[.float .f64 x, .bool ok]) ∧ (p = 0 → d < 4503599627370496 → ok = true ∧ x = fl d ng) ∧ (ok = true → d < 4503599627370496) ∧ Drawn0 w w'
set_option maxRecDepth 100000 in
set_option maxHeartbeats 4000000 in
theorem exact_walk (w : World) (d p : Int) (ng : Bool) (h0 : 0 ≤ d) (h1 : d ≤ 18446744073709551615) (hI : Info64 w w.heap.size) (hF : FP10 w w.heap.size) :
    Calls Tryd.prog 81 #[.int .u64 d, .int .i64 p, .bool ng] w (ExPost d p ng w) := by
  have i0 := hI.out.2.1
  have HW := Aside0.mk (Drawn0.refl w)
  have hneg : ∀ x (W : World), (Op.unary .neg (.float .f64 x)).run Tryd.prog W = .ok (.float .f64 (Op.negFloat .f64 x)) W := fun _ _ => rfl
  have hmul := fl_spec .mul (.inl rfl)
  have hquo := fl_spec .quo (.inr rfl)
  obtain ⟨_, B, o, _, hcB, hkB⟩ := hF.out
  by_cases hb : d / 4503599627370496 = 0
  · have d1 : (d / 4503599627370496 != 0) = false := bne_eq_false_iff_eq.mpr hb
    have HLT := Aside0.mk (show d < 4503599627370496 by omega)
    by_cases hp : p = 0
    · have d2 : (p == 0) = true := beq_iff_eq.mpr hp
      have HP := Aside0.mk hp
      clear hp hb
      cases ng
      all_goals as_aux_lemma =>
        go_enter Tryd.func81, Tryd.ntmps81
        go_wp2
        go_ret2
        first | exact ⟨_, _, rfl, fun _ _ => ⟨rfl, fl_pos d⟩, fun _ => HLT.out, HW.out⟩ | exact ⟨_, _, rfl, fun _ _ => ⟨rfl, fl_neg d⟩, fun _ => HLT.out, HW.out⟩
    · have d2 : (p == 0) = false := beq_eq_false_iff_ne.mpr hp
      have HP := Aside0.mk hp
      by_cases hpos : p > 0
      · have d3 : decide (p > 0) = true := decide_eq_true hpos
        by_cases h37 : p ≤ 37
        · have d4 : decide (p ≤ 37) = true := decide_eq_true h37
          have HK := Aside0.mk hkB
          have HP37 := Aside0.mk (And.intro hpos h37)
          clear hkB hp hb hpos h37
          cases ng
          all_goals as_aux_lemma =>
            go_enter Tryd.func81, Tryd.ntmps81
            go_upto_if 30 with (fail)
            go_cut [1, 6] (fun x1 x6 wc => ∃ (q : Int) (x : Nat) (m : Nat), x1 = .int .i64 q ∧ x6 = .float .f64 x ∧ Aside0 (0 ≤ q ∧ q ≤ 22) ∧ wc = w.drewN m)
            case first => as_aux_lemma =>
              by_cases h22 : p > 22
              · have d5 : decide (p > 22) = true := decide_eq_true h22
                obtain ⟨y1, hy1⟩ := HK.out (p - 22).toNat (by have := HP37.out; omega)
                have hy1' : w.cell? ⟨B, o + (p.toNat - 22), none⟩ = some (.float .f64 y1) := by rw [show p.toNat - 22 = (p - 22).toNat by omega]; exact hy1
                have q1 : 22 ≤ p := by omega
                have q2 : p ≤ 37 := HP37.out.2
                go_wp2
                go_meet
                case rel => exact ⟨_, _, _, rfl, rfl, ⟨by omega, by omega⟩, rfl⟩
              · have d5 : decide (p > 22) = false := decide_eq_false h22
                go_wp2
                go_meet
                case rel => exact ⟨p, _, 0, rfl, rfl, ⟨by have := HP37.out; omega, by omega⟩, rfl⟩
            case rest => as_aux_lemma =>
              clear d2 d3 d4
              obtain ⟨q, x, m, rfl, rfl, HQ, rfl⟩ := hcut
              obtain ⟨y2, hy2⟩ := HK.out q.toNat (by have := HQ.out; omega)
              have q1 : 0 ≤ q := HQ.out.1
              have q2 : q ≤ 22 := HQ.out.2
              go_wp2
              all_goals
                go_ret2
                exact ⟨_, _, rfl, fun h _ => absurd h HP.out, fun _ => HLT.out, by repeat (first | exact HW.out | apply Drawn0.step)⟩
        · have d4 : decide (p ≤ 37) = false := decide_eq_false h37
          have d6 : decide (p < 0) = false := decide_eq_false (by omega)
          clear hp hb
          clear hkB
          cases ng
          all_goals as_aux_lemma =>
            go_enter Tryd.func81, Tryd.ntmps81
            go_wp2
            all_goals
              go_ret2
              exact ⟨_, _, rfl, fun h _ => absurd h HP.out, fun _ => HLT.out, by repeat (first | exact HW.out | apply Drawn0.step)⟩
      · have d3 : decide (p > 0) = false := decide_eq_false hpos
        have d6 : decide (p < 0) = true := decide_eq_true (by omega)
        by_cases h22 : p ≥ -22
        · have d7 : decide (p ≥ -22) = true := decide_eq_true h22
          obtain ⟨y1, hy1⟩ := hkB (-p).toNat (by omega)
          have q1 : 0 ≤ -p := by omega
          have q2 : -p < 23 := by omega
          clear hp hb
          clear hkB
          cases ng
          all_goals as_aux_lemma =>
            go_enter Tryd.func81, Tryd.ntmps81
            go_wp2
            all_goals
              go_ret2
              exact ⟨_, _, rfl, fun h _ => absurd h HP.out, fun _ => HLT.out, by repeat (first | exact HW.out | apply Drawn0.step)⟩
        · have d7 : decide (p ≥ -22) = false := decide_eq_false h22
          clear hp hb
          clear hkB
          cases ng
          all_goals as_aux_lemma =>
            go_enter Tryd.func81, Tryd.ntmps81
            go_wp2
            all_goals
              go_ret2
              exact ⟨_, _, rfl, fun h _ => absurd h HP.out, fun _ => HLT.out, by repeat (first | exact HW.out | apply Drawn0.step)⟩
  · have d1 : (d / 4503599627370496 != 0) = true := bne_iff_ne.mpr hb
    have HL := Aside0.mk (show ¬ d < 4503599627370496 by omega)
    clear hb
    go_enter Tryd.func81, Tryd.ntmps81
    go_wp2
    go_ret2
    exact ⟨_, _, rfl, fun _ h => absurd h (Int.not_lt.mpr HL.out), fun h => absurd h (by decide), HW.out⟩
end Go.Proofs.YtldfejbmdonaoaaDoor.Ax