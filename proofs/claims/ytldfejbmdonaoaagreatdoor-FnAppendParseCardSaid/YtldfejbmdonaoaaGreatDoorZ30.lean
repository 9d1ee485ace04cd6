/- Joined by a program of mine from texts of this claim: Vs5. -/
import Derived.Test.YtldfejbmdonaoaaGreatDoorZ25
namespace Go.Proofs.YtldfejbmdonaoaaGreatDoor.Vs
open Go.RowKit YtldfejbmdonaoaaGreatDoorW.PrintWords YtldfejbmdonaoaaGreatDoorW.PrintLast YtldfejbmdonaoaaGreatDoorW.PrintMore
attribute [local go_sem] max2_int min2_int max_two min_two max_three min_three max_four min_four   -- for this text's walks alone
set_option linter.unusedVariables false
set_option linter.unusedSimpArgs false
mutual
def gjson_validnumber.j0 : Nat → List Int → Int → Option (Int × Bool)
  | 0, _, _ => none
  | k + 1, x0, x1 => if x1 = (x0.length : Int) then (some (x1, false)) else (if 0 ≤ x1 then (if x1 < (x0.length : Int) then (if (rd x0 x1) = 48 then (gjson_validnumber.j2 k x0 (wrap64 (x1 + 1))) else (gjson_validnumber.l0 k x0 x1)) else (none)) else (none))
def gjson_validnumber.j2 : Nat → List Int → Int → Option (Int × Bool)
  | 0, _, _ => none
  | k + 1, x0, x1 => if x1 = (x0.length : Int) then (some (x1, true)) else (if 0 ≤ x1 then (if x1 < (x0.length : Int) then (if (rd x0 x1) = 46 then (if (wrap64 (x1 + 1)) = (x0.length : Int) then (some (wrap64 (x1 + 1), false)) else (if 0 ≤ (wrap64 (x1 + 1)) then (if (wrap64 (x1 + 1)) < (x0.length : Int) then (if (rd x0 (wrap64 (x1 + 1))) < 48 then (gjson_validnumber.j3 k x0 (wrap64 (x1 + 1)) true) else (gjson_validnumber.j3 k x0 (wrap64 (x1 + 1)) (decide ((rd x0 (wrap64 (x1 + 1))) > 57)))) else (none)) else (none))) else (gjson_validnumber.j5 k x0 x1)) else (none)) else (none))
def gjson_validnumber.j5 : Nat → List Int → Int → Option (Int × Bool)
  | 0, _, _ => none
  | k + 1, x0, x1 => if x1 = (x0.length : Int) then (some (x1, true)) else (if 0 ≤ x1 then (if x1 < (x0.length : Int) then (if (rd x0 x1) = 101 then (gjson_validnumber.j6 k x0 x1 true) else (gjson_validnumber.j6 k x0 x1 ((rd x0 x1) == 69))) else (none)) else (none))
def gjson_validnumber.j6 : Nat → List Int → Int → Bool → Option (Int × Bool)
  | 0, _, _, _ => none
  | k + 1, x0, x1, x129 => if x129 = true then (if (wrap64 (x1 + 1)) = (x0.length : Int) then (some (wrap64 (x1 + 1), false)) else (if 0 ≤ (wrap64 (x1 + 1)) then (if (wrap64 (x1 + 1)) < (x0.length : Int) then (if (rd x0 (wrap64 (x1 + 1))) = 43 then (gjson_validnumber.j7 k x0 (wrap64 (x1 + 1)) true) else (gjson_validnumber.j7 k x0 (wrap64 (x1 + 1)) ((rd x0 (wrap64 (x1 + 1))) == 45))) else (none)) else (none))) else (some (x1, true))
def gjson_validnumber.j7 : Nat → List Int → Int → Bool → Option (Int × Bool)
  | 0, _, _, _ => none
  | k + 1, x0, x1, x148 => if x148 = true then (gjson_validnumber.j8 k x0 (wrap64 (x1 + 1))) else (gjson_validnumber.j8 k x0 x1)
def gjson_validnumber.j8 : Nat → List Int → Int → Option (Int × Bool)
  | 0, _, _ => none
  | k + 1, x0, x1 => if x1 = (x0.length : Int) then (some (x1, false)) else (if 0 ≤ x1 then (if x1 < (x0.length : Int) then (if (rd x0 x1) < 48 then (gjson_validnumber.j9 k x0 x1 true) else (gjson_validnumber.j9 k x0 x1 (decide ((rd x0 x1) > 57)))) else (none)) else (none))
def gjson_validnumber.j9 : Nat → List Int → Int → Bool → Option (Int × Bool)
  | 0, _, _, _ => none
  | k + 1, x0, x1, x167 => if x167 = true then (some (x1, false)) else (gjson_validnumber.l2 k x0 (wrap64 (x1 + 1)))
def gjson_validnumber.l2 : Nat → List Int → Int → Option (Int × Bool)
  | 0, _, _ => none
  | k + 1, x0, x1 => if x1 < (x0.length : Int) then (if 0 ≤ x1 then (if (rd x0 x1) ≥ 48 then (if (rd x0 x1) ≤ 57 then (gjson_validnumber.l2 k x0 (wrap64 (x1 + 1))) else (some (x1, true))) else (some (x1, true))) else (none)) else (some (x1, true))
def gjson_validnumber.j3 : Nat → List Int → Int → Bool → Option (Int × Bool)
  | 0, _, _, _ => none
  | k + 1, x0, x1, x91 => if x91 = true then (some (x1, false)) else (gjson_validnumber.l1 k x0 (wrap64 (x1 + 1)))
def gjson_validnumber.l1 : Nat → List Int → Int → Option (Int × Bool)
  | 0, _, _ => none
  | k + 1, x0, x1 => if x1 < (x0.length : Int) then (if 0 ≤ x1 then (if (rd x0 x1) ≥ 48 then (if (rd x0 x1) ≤ 57 then (gjson_validnumber.l1 k x0 (wrap64 (x1 + 1))) else (gjson_validnumber.j5 k x0 x1)) else (gjson_validnumber.j5 k x0 x1)) else (none)) else (gjson_validnumber.j5 k x0 x1)
def gjson_validnumber.l0 : Nat → List Int → Int → Option (Int × Bool)
  | 0, _, _ => none
  | k + 1, x0, x1 => if x1 < (x0.length : Int) then (if 0 ≤ x1 then (if (rd x0 x1) ≥ 48 then (if (rd x0 x1) ≤ 57 then (gjson_validnumber.l0 k x0 (wrap64 (x1 + 1))) else (gjson_validnumber.j2 k x0 x1)) else (gjson_validnumber.j2 k x0 x1)) else (none)) else (gjson_validnumber.j2 k x0 x1)
end
def gjson_validnumber.f (k : Nat) (l0 : List Int) (a1 : Int) : Option (Int × Bool) := if 0 ≤ (wrap64 (a1 - 1)) then (if (wrap64 (a1 - 1)) < (l0.length : Int) then (if (rd l0 (wrap64 (a1 - 1))) = 45 then (if (wrap64 ((wrap64 (a1 - 1)) + 1)) = (l0.length : Int) then (some (wrap64 ((wrap64 (a1 - 1)) + 1), false)) else (if 0 ≤ (wrap64 ((wrap64 (a1 - 1)) + 1)) then (if (wrap64 ((wrap64 (a1 - 1)) + 1)) < (l0.length : Int) then (if (rd l0 (wrap64 ((wrap64 (a1 - 1)) + 1))) < 48 then (some (wrap64 ((wrap64 (a1 - 1)) + 1), false)) else (if (rd l0 (wrap64 ((wrap64 (a1 - 1)) + 1))) > 57 then (some (wrap64 ((wrap64 (a1 - 1)) + 1), false)) else (gjson_validnumber.j0 k l0 (wrap64 ((wrap64 (a1 - 1)) + 1))))) else (none)) else (none))) else (gjson_validnumber.j0 k l0 (wrap64 (a1 - 1)))) else (none)) else (none)
set_option maxHeartbeats 8000000 in
set_option maxRecDepth 100000 in
theorem gjson_validnumber.calls (k : Nat) (A0 : Option Addr) (c0 : Nat) (l0 : List Int) (a1 : Int) (r1 : Int) (r2 : Bool) (w : World) (hr0 : Kd.C (Kd.int .u8) w A0 l0.length l0) (hc0 : l0.length ≤ c0) (h : gjson_validnumber.f k l0 a1 = some (r1, r2)) :
    Calls Tryz.prog 70 #[.slice A0 l0.length c0, .int .i64 a1] w fun e w' => e = .returned (.tuple #[.int .i64 r1, .bool r2]) ∧ Drawn0 w w' := by
  have HR0 := Aside0.mk hr0
  have HC0 := Aside0.mk hc0
  clear hr0 hc0
  have H : (if 0 ≤ (wrap64 (a1 - 1)) then (if (wrap64 (a1 - 1)) < (l0.length : Int) then (if (rd l0 (wrap64 (a1 - 1))) = 45 then (if (wrap64 ((wrap64 (a1 - 1)) + 1)) = (l0.length : Int) then (some (wrap64 ((wrap64 (a1 - 1)) + 1), false)) else (if 0 ≤ (wrap64 ((wrap64 (a1 - 1)) + 1)) then (if (wrap64 ((wrap64 (a1 - 1)) + 1)) < (l0.length : Int) then (if (rd l0 (wrap64 ((wrap64 (a1 - 1)) + 1))) < 48 then (some (wrap64 ((wrap64 (a1 - 1)) + 1), false)) else (if (rd l0 (wrap64 ((wrap64 (a1 - 1)) + 1))) > 57 then (some (wrap64 ((wrap64 (a1 - 1)) + 1), false)) else (gjson_validnumber.j0 k l0 (wrap64 ((wrap64 (a1 - 1)) + 1))))) else (none)) else (none))) else (gjson_validnumber.j0 k l0 (wrap64 (a1 - 1)))) else (none)) else (none)) = some (r1, r2) := h
  clear h
  obtain ⟨ji3, hji3⟩ : ∃ j_ : Int, (wrap64 (a1 - 1)) = j_ := ⟨_, rfl⟩
  replace H : (if 0 ≤ (ji3) then (if (ji3) < (l0.length : Int) then (if (rd l0 (ji3)) = 45 then (if (wrap64 ((ji3) + 1)) = (l0.length : Int) then (some (wrap64 ((ji3) + 1), false)) else (if 0 ≤ (wrap64 ((ji3) + 1)) then (if (wrap64 ((ji3) + 1)) < (l0.length : Int) then (if (rd l0 (wrap64 ((ji3) + 1))) < 48 then (some (wrap64 ((ji3) + 1), false)) else (if (rd l0 (wrap64 ((ji3) + 1))) > 57 then (some (wrap64 ((ji3) + 1), false)) else (gjson_validnumber.j0 k l0 (wrap64 ((ji3) + 1))))) else (none)) else (none))) else (gjson_validnumber.j0 k l0 ji3)) else (none)) else (none)) = some (r1, r2) := by first | (rw [hji3] at H; exact H) | (simp only [hji3] at H ⊢; exact H)
  have hji3w : (IntKind.i64.wrap (a1 - 1)) = ji3 := (i64_w _).trans hji3
  by_cases c4 : 0 ≤ (ji3)
  · rw [if_pos c4] at H
    have c4b0 : decide (0 ≤ (ji3)) = true := decide_eq_true c4
    clear c4
    by_cases c5 : (ji3) < (l0.length : Int)
    · rw [if_pos c5] at H
      have c5b0 : decide ((ji3) < (l0.length : Int)) = true := decide_eq_true c5
      clear c5
      have HC6 := Aside0.mk H
      clear H
      have p109 : 0 ≤ ((ji3) : Int) := of_decide_eq_true (by first | (with_reducible assumption) | assumption)
      have q109 : (ji3) < (l0.length : Int) := of_decide_eq_true (by first | (with_reducible assumption) | assumption)
      obtain ⟨ad109, e109, hx109_0⟩ := Kd.at_int HR0.out (ji3) p109 q109
      cases e109
      replace p109 := eq_true p109
      replace q109 := eq_true q109
      go_enter Tryz.func70, Tryz.ntmps70
      go_upto_if 12 with (fail)
      go_cut [1] (fun v1 wc => ∃ (kq : Nat) (x1_5 : Int), v1 = .int .i64 x1_5 ∧ Aside0 (gjson_validnumber.j0 kq l0 x1_5 = some (r1, r2)) ∧ Aside0 (kq ≤ k) ∧ Drawn0 w wc)
      case first => as_aux_lemma =>
        have H := HC6.out
        clear HC6
        by_cases c7 : (rd l0 (ji3)) = 45
        · rw [if_pos c7] at H
          have c7b0 : ((rd l0 (ji3)) == 45) = true := beq_iff_eq.mpr c7
          have c7b1 : ((rd l0 (ji3)) != 45) = false := bne_eq_false_iff_eq.mpr c7
          clear c7
          (first | rw [c7b0] | (simp only [i64_w, i32_w]; rw [c7b0]) | skip)
          by_cases c8 : (wrap64 ((ji3) + 1)) = (l0.length : Int)
          · rw [if_pos c8] at H
            have c8b0 : ((wrap64 ((ji3) + 1)) == (l0.length : Int)) = true := beq_iff_eq.mpr c8
            have c8b1 : ((wrap64 ((ji3) + 1)) != (l0.length : Int)) = false := bne_eq_false_iff_eq.mpr c8
            clear c8
            simp only [Option.some.injEq, Prod.mk.injEq] at H
            obtain ⟨rfl, rfl⟩ := H
            go_wp2
            go_ret2
            exact ⟨by first | rfl | (simp; done) | (simp only [← hji3] <;> (first | rfl | simp)) | (simp [*]; done), by repeat (first | exact Drawn0.refl _ | apply Drawn0.step)⟩
          · rw [if_neg c8] at H
            have c8b0 : ((wrap64 ((ji3) + 1)) == (l0.length : Int)) = false := beq_eq_false_iff_ne.mpr c8
            have c8b1 : ((wrap64 ((ji3) + 1)) != (l0.length : Int)) = true := bne_iff_ne.mpr c8
            obtain ⟨ji9, hji9⟩ : ∃ j_ : Int, (wrap64 ((ji3) + 1)) = j_ := ⟨_, rfl⟩
            replace H : (if 0 ≤ (ji9) then (if (ji9) < (l0.length : Int) then (if (rd l0 (ji9)) < 48 then (some (ji9, false)) else (if (rd l0 (ji9)) > 57 then (some (ji9, false)) else (gjson_validnumber.j0 k l0 ji9))) else (none)) else (none)) = some (r1, r2) := by first | (rw [hji9] at H; exact H) | (simp only [hji9] at H ⊢; exact H)
            (try rw [hji9] at c8b0)
            (try rw [hji9] at c8b1)
            have hji9w : (IntKind.i64.wrap ((ji3) + 1)) = ji9 := (i64_w _).trans hji9
            by_cases c10 : 0 ≤ (ji9)
            · rw [if_pos c10] at H
              have c10b0 : decide (0 ≤ (ji9)) = true := decide_eq_true c10
              clear c10
              by_cases c11 : (ji9) < (l0.length : Int)
              · rw [if_pos c11] at H
                have c11b0 : decide ((ji9) < (l0.length : Int)) = true := decide_eq_true c11
                clear c11
                by_cases c12 : (rd l0 (ji9)) < 48
                · rw [if_pos c12] at H
                  have c12b0 : decide ((rd l0 (ji9)) < 48) = true := decide_eq_true c12
                  clear c12
                  simp only [Option.some.injEq, Prod.mk.injEq] at H
                  obtain ⟨rfl, rfl⟩ := H
                  have p110 : 0 ≤ ((ji9) : Int) := of_decide_eq_true (by first | (with_reducible assumption) | assumption)
                  have q110 : (ji9) < (l0.length : Int) := of_decide_eq_true (by first | (with_reducible assumption) | assumption)
                  obtain ⟨ad110, e110, hx110_0⟩ := Kd.at_int HR0.out (ji9) p110 q110
                  obtain rfl : ad109 = ad110 := (by injection e110)
                  replace p110 := eq_true p110
                  replace q110 := eq_true q110
                  go_wp2
                  go_ret2
                  exact ⟨by first | rfl | (simp; done) | (simp only [← hji3, ← hji9] <;> (first | rfl | simp)) | (simp [*]; done), by repeat (first | exact Drawn0.refl _ | apply Drawn0.step)⟩
                · rw [if_neg c12] at H
                  have c12b0 : decide ((rd l0 (ji9)) < 48) = false := decide_eq_false c12
                  clear c12
                  by_cases c13 : (rd l0 (ji9)) > 57
                  · rw [if_pos c13] at H
                    have c13b0 : decide (57 < (rd l0 (ji9))) = true := decide_eq_true c13
                    clear c13
                    simp only [Option.some.injEq, Prod.mk.injEq] at H
                    obtain ⟨rfl, rfl⟩ := H
                    have p110 : 0 ≤ ((ji9) : Int) := of_decide_eq_true (by first | (with_reducible assumption) | assumption)
                    have q110 : (ji9) < (l0.length : Int) := of_decide_eq_true (by first | (with_reducible assumption) | assumption)
                    obtain ⟨ad110, e110, hx110_0⟩ := Kd.at_int HR0.out (ji9) p110 q110
                    obtain rfl : ad109 = ad110 := (by injection e110)
                    replace p110 := eq_true p110
                    replace q110 := eq_true q110
                    have p111 : 0 ≤ ((ji9) : Int) := of_decide_eq_true (by first | (with_reducible assumption) | assumption)
                    have q111 : (ji9) < (l0.length : Int) := of_decide_eq_true (by first | (with_reducible assumption) | assumption)
                    obtain ⟨ad111, e111, hx111_0⟩ := Kd.at_int HR0.out (ji9) p111 q111
                    obtain rfl : ad109 = ad111 := (by injection e111)
                    replace p111 := eq_true p111
                    replace q111 := eq_true q111
                    go_wp2
                    go_ret2
                    exact ⟨by first | rfl | (simp; done) | (simp only [← hji3, ← hji9] <;> (first | rfl | simp)) | (simp [*]; done), by repeat (first | exact Drawn0.refl _ | apply Drawn0.step)⟩
                  · rw [if_neg c13] at H
                    have c13b0 : decide (57 < (rd l0 (ji9))) = false := decide_eq_false c13
                    clear c13
                    have H' := Aside0.mk H
                    clear H
                    have p110 : 0 ≤ ((ji9) : Int) := of_decide_eq_true (by first | (with_reducible assumption) | assumption)
                    have q110 : (ji9) < (l0.length : Int) := of_decide_eq_true (by first | (with_reducible assumption) | assumption)
                    obtain ⟨ad110, e110, hx110_0⟩ := Kd.at_int HR0.out (ji9) p110 q110
                    obtain rfl : ad109 = ad110 := (by injection e110)
                    replace p110 := eq_true p110
                    replace q110 := eq_true q110
                    have p111 : 0 ≤ ((ji9) : Int) := of_decide_eq_true (by first | (with_reducible assumption) | assumption)
                    have q111 : (ji9) < (l0.length : Int) := of_decide_eq_true (by first | (with_reducible assumption) | assumption)
                    obtain ⟨ad111, e111, hx111_0⟩ := Kd.at_int HR0.out (ji9) p111 q111
                    obtain rfl : ad109 = ad111 := (by injection e111)
                    replace p111 := eq_true p111
                    replace q111 := eq_true q111
                    go_wp2
                    go_meet
                    case rel => exact ⟨_, (ji9), (by first | rfl | (simp; done) | (simp only [← hji9] <;> (first | rfl | simp)) | (simp [*]; done)), H', ⟨by first | omega | exact Nat.le_refl _⟩, by repeat (first | exact Drawn0.refl _ | apply Drawn0.step)⟩
              · rw [if_neg c11] at H
                exact absurd H (by simp)
            · rw [if_neg c10] at H
              exact absurd H (by simp)
        · rw [if_neg c7] at H
          have c7b0 : ((rd l0 (ji3)) == 45) = false := beq_eq_false_iff_ne.mpr c7
          have c7b1 : ((rd l0 (ji3)) != 45) = true := bne_iff_ne.mpr c7
          (first | rw [c7b0] | (simp only [i64_w, i32_w]; rw [c7b0]) | skip)
          have H' := Aside0.mk H
          clear H
          go_wp2
          go_meet
          case rel => exact ⟨_, (ji3), (by first | rfl | (simp; done) | (simp only [← hji3] <;> (first | rfl | simp)) | (simp [*]; done)), H', ⟨by first | omega | exact Nat.le_refl _⟩, by repeat (first | exact Drawn0.refl _ | apply Drawn0.step)⟩
      case rest => as_aux_lemma =>
        clear HC6
        try clear c1
        try clear p1
        try clear q1
        try clear hx1
        try clear p2
        try clear c4
        try clear c4b0
        try clear c5
        try clear c5b0
        try clear p6
        try clear c7
        try clear c7b0
        try clear c7b1
        try clear c8
        try clear c8b0
        try clear c8b1
        try clear c10
        try clear c10b0
        try clear p10
        try clear q10
        try clear hx10
        try clear c11
        try clear c11b0
        try clear p11
        try clear q11
        try clear hx11
        try clear c12
        try clear c12b0
        try clear c13
        try clear c13b0
        try clear hx109_0
        try clear hx110_0
        try clear hx111_0
        try clear p109
        try clear p110
        try clear p111
        try clear q109
        try clear q110
        try clear q111
        obtain ⟨kq, x1_5, rfl, HA, HJ5, ⟨mc5, rfl⟩⟩ := hcut
        cases kq with
        | zero => exact absurd HA.out (by simp [gjson_validnumber.j0])
        | succ kj5 =>
          have H := HA.out
          clear HA
          simp only [gjson_validnumber.j0] at H
          by_cases c14 : x1_5 = (l0.length : Int)
          · rw [if_pos c14] at H
            have c14b0 : (x1_5 == (l0.length : Int)) = true := beq_iff_eq.mpr c14
            have c14b1 : (x1_5 != (l0.length : Int)) = false := bne_eq_false_iff_eq.mpr c14
            clear c14
            simp only [Option.some.injEq, Prod.mk.injEq] at H
            obtain ⟨rfl, rfl⟩ := H
            go_wp2
            go_ret2
            exact ⟨by first | rfl | (simp; done) | (simp only [← hji3] <;> (first | rfl | simp)) | (simp [*]; done), by repeat (first | exact Drawn0.refl _ | apply Drawn0.step)⟩
          · rw [if_neg c14] at H
            have c14b0 : (x1_5 == (l0.length : Int)) = false := beq_eq_false_iff_ne.mpr c14
            have c14b1 : (x1_5 != (l0.length : Int)) = true := bne_iff_ne.mpr c14
            by_cases c15 : 0 ≤ x1_5
            · rw [if_pos c15] at H
              have c15b0 : decide (0 ≤ x1_5) = true := decide_eq_true c15
              clear c15
              by_cases c16 : x1_5 < (l0.length : Int)
              · rw [if_pos c16] at H
                have c16b0 : decide (x1_5 < (l0.length : Int)) = true := decide_eq_true c16
                clear c16
                have HC17 := Aside0.mk H
                clear H
                have p112 : 0 ≤ (x1_5 : Int) := of_decide_eq_true (by first | (with_reducible assumption) | assumption)
                have q112 : x1_5 < (l0.length : Int) := of_decide_eq_true (by first | (with_reducible assumption) | assumption)
                obtain ⟨ad112, e112, hx112_0⟩ := Kd.at_int HR0.out x1_5 p112 q112
                obtain rfl : ad109 = ad112 := (by injection e112)
                replace p112 := eq_true p112
                replace q112 := eq_true q112
                go_upto_if 42 with (fail)
                go_cut [1] (fun v1 wc => ∃ (kq : Nat) (x1_16 : Int), v1 = .int .i64 x1_16 ∧ Aside0 (gjson_validnumber.j2 kq l0 x1_16 = some (r1, r2)) ∧ Aside0 (kq ≤ kj5) ∧ Drawn0 w wc)
                case first => as_aux_lemma =>
                  have H := HC17.out
                  clear HC17
                  by_cases c18 : (rd l0 x1_5) = 48
                  · rw [if_pos c18] at H
                    have c18b0 : ((rd l0 x1_5) == 48) = true := beq_iff_eq.mpr c18
                    have c18b1 : ((rd l0 x1_5) != 48) = false := bne_eq_false_iff_eq.mpr c18
                    clear c18
                    (first | rw [c18b0] | (simp only [i64_w, i32_w]; rw [c18b0]) | skip)
                    have H' := Aside0.mk H
                    clear H
                    go_wp2
                    go_meet
                    case rel => exact ⟨_, (wrap64 (x1_5 + 1)), (by first | rfl | (simp; done) | (simp [*]; done)), H', ⟨by have := HJ5.out; first | omega | exact Nat.le_refl _⟩, by repeat (first | exact Drawn0.refl _ | apply Drawn0.step)⟩
                  · rw [if_neg c18] at H
                    have c18b0 : ((rd l0 x1_5) == 48) = false := beq_eq_false_iff_ne.mpr c18
                    have c18b1 : ((rd l0 x1_5) != 48) = true := bne_iff_ne.mpr c18
                    (first | rw [c18b0] | (simp only [i64_w, i32_w]; rw [c18b0]) | skip)
                    have H' := Aside0.mk H
                    clear H
                    go_wp2
                    go_loopg [1] kj5 (fun kq v1 w' => ∃ (x1_2 : Int), v1 = .int .i64 x1_2 ∧ Aside0 (gjson_validnumber.l0 kq l0 x1_2 = some (r1, r2)) ∧ Aside0 (kq ≤ kj5) ∧ Drawn0 w w')
                    case atStart => exact ⟨(x1_5), (by first | rfl | (simp; done) | (simp [*]; done)), H', ⟨Nat.le_refl _⟩, by repeat (first | exact Drawn0.refl _ | apply Drawn0.step)⟩
                    case round =>
                      clear H'
                      try clear c1
                      try clear p1
                      try clear q1
                      try clear hx1
                      try clear p2
                      try clear c4
                      try clear c4b0
                      try clear c5
                      try clear c5b0
                      try clear p6
                      try clear c7
                      try clear c7b0
                      try clear c7b1
                      try clear c8
                      try clear c8b0
                      try clear c8b1
                      try clear c10
                      try clear c10b0
                      try clear p10
                      try clear q10
                      try clear hx10
                      try clear c11
                      try clear c11b0
                      try clear p11
                      try clear q11
                      try clear hx11
                      try clear c12
                      try clear c12b0
                      try clear c13
                      try clear c13b0
                      try clear c14
                      try clear c14b0
                      try clear c14b1
                      try clear c15
                      try clear c15b0
                      try clear c16
                      try clear c16b0
                      try clear c18
                      try clear c18b0
                      try clear c18b1
                      try clear hx109_0
                      try clear hx110_0
                      try clear hx111_0
                      try clear hx112_0
                      try clear p1
                      try clear p10
                      try clear p109
                      try clear p11
                      try clear p110
                      try clear p111
                      try clear p112
                      try clear p2
                      try clear p6
                      try clear q1
                      try clear q10
                      try clear q109
                      try clear q11
                      try clear q110
                      try clear q111
                      try clear q112
                      obtain ⟨x1_2, rfl, HA, HK2, ⟨m2, rfl⟩⟩ := hrel
                      cases gk with
                      | zero => exact absurd HA.out (by simp [gjson_validnumber.l0])
                      | succ k2 =>
                        have H := HA.out
                        clear HA
                        simp only [gjson_validnumber.l0] at H
                        by_cases c19 : x1_2 < (l0.length : Int)
                        · rw [if_pos c19] at H
                          have c19b0 : decide (x1_2 < (l0.length : Int)) = true := decide_eq_true c19
                          clear c19
                          by_cases c20 : 0 ≤ x1_2
                          · rw [if_pos c20] at H
                            have c20b0 : decide (0 ≤ x1_2) = true := decide_eq_true c20
                            clear c20
                            by_cases c21 : (rd l0 x1_2) ≥ 48
                            · rw [if_pos c21] at H
                              have c21b0 : decide (48 ≤ (rd l0 x1_2)) = true := decide_eq_true c21
                              clear c21
                              by_cases c22 : (rd l0 x1_2) ≤ 57
                              · rw [if_pos c22] at H
                                have c22b0 : decide ((rd l0 x1_2) ≤ 57) = true := decide_eq_true c22
                                clear c22
                                have H' := Aside0.mk H
                                clear H
                                have p113 : 0 ≤ (x1_2 : Int) := of_decide_eq_true (by first | (with_reducible assumption) | assumption)
                                have q113 : x1_2 < (l0.length : Int) := of_decide_eq_true (by first | (with_reducible assumption) | assumption)
                                obtain ⟨ad113, e113, hx113_0⟩ := Kd.at_int HR0.out x1_2 p113 q113
                                obtain rfl : ad109 = ad113 := (by injection e113)
                                replace p113 := eq_true p113
                                replace q113 := eq_true q113
                                have p114 : 0 ≤ (x1_2 : Int) := of_decide_eq_true (by first | (with_reducible assumption) | assumption)
                                have q114 : x1_2 < (l0.length : Int) := of_decide_eq_true (by first | (with_reducible assumption) | assumption)
                                obtain ⟨ad114, e114, hx114_0⟩ := Kd.at_int HR0.out x1_2 p114 q114
                                obtain rfl : ad109 = ad114 := (by injection e114)
                                replace p114 := eq_true p114
                                replace q114 := eq_true q114
                                go_wp2
                                go_roundg k2
                                case measure => have := HJ5.out; have := HK2.out; omega
                                case rel => exact ⟨(wrap64 (x1_2 + 1)), (by first | rfl | (simp; done) | (simp [*]; done)), H', ⟨by have := HJ5.out; have := HK2.out; omega⟩, by repeat (first | exact Drawn0.refl _ | apply Drawn0.step)⟩
                              · rw [if_neg c22] at H
                                have c22b0 : decide ((rd l0 x1_2) ≤ 57) = false := decide_eq_false c22
                                clear c22
                                have H' := Aside0.mk H
                                clear H
                                have p113 : 0 ≤ (x1_2 : Int) := of_decide_eq_true (by first | (with_reducible assumption) | assumption)
                                have q113 : x1_2 < (l0.length : Int) := of_decide_eq_true (by first | (with_reducible assumption) | assumption)
                                obtain ⟨ad113, e113, hx113_0⟩ := Kd.at_int HR0.out x1_2 p113 q113
                                obtain rfl : ad109 = ad113 := (by injection e113)
                                replace p113 := eq_true p113
                                replace q113 := eq_true q113
                                have p114 : 0 ≤ (x1_2 : Int) := of_decide_eq_true (by first | (with_reducible assumption) | assumption)
                                have q114 : x1_2 < (l0.length : Int) := of_decide_eq_true (by first | (with_reducible assumption) | assumption)
                                obtain ⟨ad114, e114, hx114_0⟩ := Kd.at_int HR0.out x1_2 p114 q114
                                obtain rfl : ad109 = ad114 := (by injection e114)
                                replace p114 := eq_true p114
                                replace q114 := eq_true q114
                                go_wp2
                                go_meet
                                case rel => exact ⟨_, (x1_2), (by first | rfl | (simp; done) | (simp [*]; done)), H', ⟨by have := HJ5.out; have := HK2.out; first | omega | exact Nat.le_refl _⟩, by repeat (first | exact Drawn0.refl _ | apply Drawn0.step)⟩
                            · rw [if_neg c21] at H
                              have c21b0 : decide (48 ≤ (rd l0 x1_2)) = false := decide_eq_false c21
                              clear c21
                              have H' := Aside0.mk H
                              clear H
                              have p113 : 0 ≤ (x1_2 : Int) := of_decide_eq_true (by first | (with_reducible assumption) | assumption)
                              have q113 : x1_2 < (l0.length : Int) := of_decide_eq_true (by first | (with_reducible assumption) | assumption)
                              obtain ⟨ad113, e113, hx113_0⟩ := Kd.at_int HR0.out x1_2 p113 q113
                              obtain rfl : ad109 = ad113 := (by injection e113)
                              replace p113 := eq_true p113
                              replace q113 := eq_true q113
                              go_wp2
                              go_meet
                              case rel => exact ⟨_, (x1_2), (by first | rfl | (simp; done) | (simp [*]; done)), H', ⟨by have := HJ5.out; have := HK2.out; first | omega | exact Nat.le_refl _⟩, by repeat (first | exact Drawn0.refl _ | apply Drawn0.step)⟩
                          · rw [if_neg c20] at H
                            exact absurd H (by simp)
                        · rw [if_neg c19] at H
                          have c19b0 : decide (x1_2 < (l0.length : Int)) = false := decide_eq_false c19
                          clear c19
                          have H' := Aside0.mk H
                          clear H
                          go_wp2
                          go_meet
                          case rel => exact ⟨_, (x1_2), (by first | rfl | (simp; done) | (simp [*]; done)), H', ⟨by have := HJ5.out; have := HK2.out; first | omega | exact Nat.le_refl _⟩, by repeat (first | exact Drawn0.refl _ | apply Drawn0.step)⟩
                case rest => as_aux_lemma =>
                  clear HC17
                  try clear c1
                  try clear p1
                  try clear q1
                  try clear hx1
                  try clear c2
                  try clear p2
                  try clear c4
                  try clear c4b0
                  try clear c5
                  try clear c5b0
                  try clear p6
                  try clear c7
                  try clear c7b0
                  try clear c7b1
                  try clear c8
                  try clear c8b0
                  try clear c8b1
                  try clear c10
                  try clear c10b0
                  try clear p10
                  try clear q10
                  try clear hx10
                  try clear c11
                  try clear c11b0
                  try clear p11
                  try clear q11
                  try clear hx11
                  try clear c12
                  try clear c12b0
                  try clear c13
                  try clear c13b0
                  try clear c14
                  try clear c14b0
                  try clear c14b1
                  try clear c15
                  try clear c15b0
                  try clear c16
                  try clear c16b0
                  try clear c18
                  try clear c18b0
                  try clear c18b1
                  try clear c19
                  try clear c19b0
                  try clear c20
                  try clear c20b0
                  try clear c21
                  try clear c21b0
                  try clear c22
                  try clear c22b0
                  try clear hx109_0
                  try clear hx110_0
                  try clear hx111_0
                  try clear hx112_0
                  try clear hx113_0
                  try clear hx114_0
                  try clear p1
                  try clear p10
                  try clear p109
                  try clear p11
                  try clear p110
                  try clear p111
                  try clear p112
                  try clear p113
                  try clear p114
                  try clear p2
                  try clear p6
                  try clear q1
                  try clear q10
                  try clear q109
                  try clear q11
                  try clear q110
                  try clear q111
                  try clear q112
                  try clear q113
                  try clear q114
                  obtain ⟨kq, x1_16, rfl, HA, HJ16, ⟨mc16, rfl⟩⟩ := hcut
                  cases kq with
                  | zero => exact absurd HA.out (by simp [gjson_validnumber.j2])
                  | succ kj16 =>
                    have H := HA.out
                    clear HA
                    simp only [gjson_validnumber.j2] at H
                    by_cases c23 : x1_16 = (l0.length : Int)
                    · rw [if_pos c23] at H
                      have c23b0 : (x1_16 == (l0.length : Int)) = true := beq_iff_eq.mpr c23
                      have c23b1 : (x1_16 != (l0.length : Int)) = false := bne_eq_false_iff_eq.mpr c23
                      clear c23
                      simp only [Option.some.injEq, Prod.mk.injEq] at H
                      obtain ⟨rfl, rfl⟩ := H
                      go_wp2
                      go_ret2
                      exact ⟨by first | rfl | (simp; done) | (simp only [← hji3] <;> (first | rfl | simp)) | (simp [*]; done), by repeat (first | exact Drawn0.refl _ | apply Drawn0.step)⟩
                    · rw [if_neg c23] at H
                      have c23b0 : (x1_16 == (l0.length : Int)) = false := beq_eq_false_iff_ne.mpr c23
                      have c23b1 : (x1_16 != (l0.length : Int)) = true := bne_iff_ne.mpr c23
                      by_cases c24 : 0 ≤ x1_16
                      · rw [if_pos c24] at H
                        have c24b0 : decide (0 ≤ x1_16) = true := decide_eq_true c24
                        clear c24
                        by_cases c25 : x1_16 < (l0.length : Int)
                        · rw [if_pos c25] at H
                          have c25b0 : decide (x1_16 < (l0.length : Int)) = true := decide_eq_true c25
                          clear c25
                          have HC26 := Aside0.mk H
                          clear H
                          have p115 : 0 ≤ (x1_16 : Int) := of_decide_eq_true (by first | (with_reducible assumption) | assumption)
                          have q115 : x1_16 < (l0.length : Int) := of_decide_eq_true (by first | (with_reducible assumption) | assumption)
                          obtain ⟨ad115, e115, hx115_0⟩ := Kd.at_int HR0.out x1_16 p115 q115
                          obtain rfl : ad109 = ad115 := (by injection e115)
                          replace p115 := eq_true p115
                          replace q115 := eq_true q115
                          go_upto_if 72 with (fail)
                          go_cut [1] (fun v1 wc => ∃ (kq : Nat) (x1_25 : Int), v1 = .int .i64 x1_25 ∧ Aside0 (gjson_validnumber.j5 kq l0 x1_25 = some (r1, r2)) ∧ Aside0 (kq ≤ kj16) ∧ Drawn0 w wc)
                          case first => as_aux_lemma =>
                            have H := HC26.out
                            clear HC26
                            by_cases c27 : (rd l0 x1_16) = 46
                            · rw [if_pos c27] at H
                              have c27b0 : ((rd l0 x1_16) == 46) = true := beq_iff_eq.mpr c27
                              have c27b1 : ((rd l0 x1_16) != 46) = false := bne_eq_false_iff_eq.mpr c27
                              clear c27
                              (first | rw [c27b0] | (simp only [i64_w, i32_w]; rw [c27b0]) | skip)
                              by_cases c28 : (wrap64 (x1_16 + 1)) = (l0.length : Int)
                              · rw [if_pos c28] at H
                                have c28b0 : ((wrap64 (x1_16 + 1)) == (l0.length : Int)) = true := beq_iff_eq.mpr c28
                                have c28b1 : ((wrap64 (x1_16 + 1)) != (l0.length : Int)) = false := bne_eq_false_iff_eq.mpr c28
                                clear c28
                                simp only [Option.some.injEq, Prod.mk.injEq] at H
                                obtain ⟨rfl, rfl⟩ := H
                                go_wp2
                                go_ret2
                                exact ⟨by first | rfl | (simp; done) | (simp only [← hji3] <;> (first | rfl | simp)) | (simp [*]; done), by repeat (first | exact Drawn0.refl _ | apply Drawn0.step)⟩
                              · rw [if_neg c28] at H
                                have c28b0 : ((wrap64 (x1_16 + 1)) == (l0.length : Int)) = false := beq_eq_false_iff_ne.mpr c28
                                have c28b1 : ((wrap64 (x1_16 + 1)) != (l0.length : Int)) = true := bne_iff_ne.mpr c28
                                have HC29 := Aside0.mk H
                                clear H
                                go_upto_region 21 with (fail)
                                go_cut [91] (fun v91 wc => ∃ (kq : Nat) (x91_28 : Bool), v91 = .bool x91_28 ∧ Aside0 (gjson_validnumber.j3 kq l0 (wrap64 (x1_16 + 1)) x91_28 = some (r1, r2)) ∧ Aside0 (kq ≤ kj16) ∧ Drawn0 w wc)
                                case first => as_aux_lemma =>
                                  have H := HC29.out
                                  clear HC29
                                  obtain ⟨ji30, hji30⟩ : ∃ j_ : Int, (wrap64 (x1_16 + 1)) = j_ := ⟨_, rfl⟩
                                  replace H : (if 0 ≤ (ji30) then (if (ji30) < (l0.length : Int) then (if (rd l0 (ji30)) < 48 then (gjson_validnumber.j3 kj16 l0 ji30 true) else (gjson_validnumber.j3 kj16 l0 ji30 (decide ((rd l0 (ji30)) > 57)))) else (none)) else (none)) = some (r1, r2) := by first | (rw [hji30] at H; exact H) | (simp only [hji30] at H ⊢; exact H)
                                  (try rw [hji30] at c28b0)
                                  (try rw [hji30] at c28b1)
                                  have hji30w : (IntKind.i64.wrap (x1_16 + 1)) = ji30 := (i64_w _).trans hji30
                                  by_cases c31 : 0 ≤ (ji30)
                                  · rw [if_pos c31] at H
                                    have c31b0 : decide (0 ≤ (ji30)) = true := decide_eq_true c31
                                    clear c31
                                    (first | rw [c31b0] | (simp only [i64_w, i32_w]; rw [c31b0]) | skip)
                                    by_cases c32 : (ji30) < (l0.length : Int)
                                    · rw [if_pos c32] at H
                                      have c32b0 : decide ((ji30) < (l0.length : Int)) = true := decide_eq_true c32
                                      clear c32
                                      by_cases c33 : (rd l0 (ji30)) < 48
                                      · rw [if_pos c33] at H
                                        have c33b0 : decide ((rd l0 (ji30)) < 48) = true := decide_eq_true c33
                                        clear c33
                                        have H' := Aside0.mk H
                                        clear H
                                        have p116 : 0 ≤ ((ji30) : Int) := of_decide_eq_true (by first | (with_reducible assumption) | assumption)
                                        have q116 : (ji30) < (l0.length : Int) := of_decide_eq_true (by first | (with_reducible assumption) | assumption)
                                        obtain ⟨ad116, e116, hx116_0⟩ := Kd.at_int HR0.out (ji30) p116 q116
                                        obtain rfl : ad109 = ad116 := (by injection e116)
                                        replace p116 := eq_true p116
                                        replace q116 := eq_true q116
                                        go_wp2
                                        subst hji30
                                        go_meet
                                        case rel => exact ⟨_, (true), (by first | rfl | (simp; done) | (simp [*]; done)), H', ⟨by have := HJ5.out; have := HJ16.out; first | omega | exact Nat.le_refl _⟩, by repeat (first | exact Drawn0.refl _ | apply Drawn0.step)⟩
                                      · rw [if_neg c33] at H
                                        have c33b0 : decide ((rd l0 (ji30)) < 48) = false := decide_eq_false c33
                                        clear c33
                                        have H' := Aside0.mk H
                                        clear H
                                        have p116 : 0 ≤ ((ji30) : Int) := of_decide_eq_true (by first | (with_reducible assumption) | assumption)
                                        have q116 : (ji30) < (l0.length : Int) := of_decide_eq_true (by first | (with_reducible assumption) | assumption)
                                        obtain ⟨ad116, e116, hx116_0⟩ := Kd.at_int HR0.out (ji30) p116 q116
                                        obtain rfl : ad109 = ad116 := (by injection e116)
                                        replace p116 := eq_true p116
                                        replace q116 := eq_true q116
                                        have p117 : 0 ≤ ((ji30) : Int) := of_decide_eq_true (by first | (with_reducible assumption) | assumption)
                                        have q117 : (ji30) < (l0.length : Int) := of_decide_eq_true (by first | (with_reducible assumption) | assumption)
                                        obtain ⟨ad117, e117, hx117_0⟩ := Kd.at_int HR0.out (ji30) p117 q117
                                        obtain rfl : ad109 = ad117 := (by injection e117)
                                        replace p117 := eq_true p117
                                        replace q117 := eq_true q117
                                        go_wp2
                                        subst hji30
                                        go_meet
                                        case rel => exact ⟨_, (decide ((rd l0 ((wrap64 (x1_16 + 1)))) > 57)), (by first | rfl | (simp; done) | (simp only [← hji30] <;> (first | rfl | simp)) | (simp [*]; done)), H', ⟨by have := HJ5.out; have := HJ16.out; first | omega | exact Nat.le_refl _⟩, by repeat (first | exact Drawn0.refl _ | apply Drawn0.step)⟩
                                    · rw [if_neg c32] at H
                                      exact absurd H (by simp)
                                  · rw [if_neg c31] at H
                                    exact absurd H (by simp)
                                case rest => as_aux_lemma =>
                                  clear HC29
                                  try clear c1
                                  try clear p1
                                  try clear q1
                                  try clear hx1
                                  try clear c2
                                  try clear p2
                                  try clear c3
                                  try clear c4
                                  try clear c4b0
                                  try clear c5
                                  try clear c5b0
                                  try clear p6
                                  try clear c7
                                  try clear c7b0
                                  try clear c7b1
                                  try clear c8
                                  try clear c8b0
                                  try clear c8b1
                                  try clear c10
                                  try clear c10b0
                                  try clear p10
                                  try clear q10
                                  try clear hx10
                                  try clear c11
                                  try clear c11b0
                                  try clear p11
                                  try clear q11
                                  try clear hx11
                                  try clear c12
                                  try clear c12b0
                                  try clear c13
                                  try clear c13b0
                                  try clear c14
                                  try clear c14b0
                                  try clear c14b1
                                  try clear c15
                                  try clear c15b0
                                  try clear c16
                                  try clear c16b0
                                  try clear c18
                                  try clear c18b0
                                  try clear c18b1
                                  try clear c19
                                  try clear c19b0
                                  try clear c20
                                  try clear c20b0
                                  try clear c21
                                  try clear c21b0
                                  try clear c22
                                  try clear c22b0
                                  try clear c23
                                  try clear c23b0
                                  try clear c23b1
                                  try clear c24
                                  try clear c24b0
                                  try clear c25
                                  try clear c25b0
                                  try clear c27
                                  try clear c27b0
                                  try clear c27b1
                                  try clear c28
                                  try clear c28b0
                                  try clear c28b1
                                  try clear c31
                                  try clear c31b0
                                  try clear c32
                                  try clear c32b0
                                  try clear c33
                                  try clear c33b0
                                  try clear hx109_0
                                  try clear hx110_0
                                  try clear hx111_0
                                  try clear hx112_0
                                  try clear hx113_0
                                  try clear hx114_0
                                  try clear hx115_0
                                  try clear hx116_0
                                  try clear hx117_0
                                  try clear p1
                                  try clear p10
                                  try clear p109
                                  try clear p11
                                  try clear p110
                                  try clear p111
                                  try clear p112
                                  try clear p113
                                  try clear p114
                                  try clear p115
                                  try clear p116
                                  try clear p117
                                  try clear p2
                                  try clear p6
                                  try clear q1
                                  try clear q10
                                  try clear q109
                                  try clear q11
                                  try clear q110
                                  try clear q111
                                  try clear q112
                                  try clear q113
                                  try clear q114
                                  try clear q115
                                  try clear q116
                                  try clear q117
                                  obtain ⟨kq, x91_28, rfl, HA, HJ28, ⟨mc28, rfl⟩⟩ := hcut
                                  cases kq with
                                  | zero => exact absurd HA.out (by simp [gjson_validnumber.j3])
                                  | succ kj28 =>
                                    have H := HA.out
                                    clear HA
                                    simp only [gjson_validnumber.j3] at H
                                    by_cases c34 : x91_28 = true
                                    · subst c34
                                      have H1 : (some ((wrap64 (x1_16 + 1)), false)) = some (r1, r2) := by rw [if_pos rfl] at H; exact H
                                      clear H
                                      have H := H1
                                      clear H1
                                      simp only [Option.some.injEq, Prod.mk.injEq] at H
                                      obtain ⟨rfl, rfl⟩ := H
                                      go_wp2
                                      go_ret2
                                      exact ⟨by first | rfl | (simp; done) | (simp only [← hji3] <;> (first | rfl | simp)) | (simp [*]; done), by repeat (first | exact Drawn0.refl _ | apply Drawn0.step)⟩
                                    · replace c34 := Bool.eq_false_iff.mpr c34
                                      subst c34
                                      have H1 : (gjson_validnumber.l1 kj28 l0 (wrap64 ((wrap64 (x1_16 + 1)) + 1))) = some (r1, r2) := by rw [if_neg (show ¬ (false = true) by decide)] at H; exact H
                                      clear H
                                      have H := H1
                                      clear H1
                                      have H' := Aside0.mk H
                                      clear H
                                      go_wp2
                                      go_loopg [1] kj28 (fun kq v1 w' => ∃ (x1_4 : Int), v1 = .int .i64 x1_4 ∧ Aside0 (gjson_validnumber.l1 kq l0 x1_4 = some (r1, r2)) ∧ Aside0 (kq ≤ kj28) ∧ Drawn0 w w')
                                      case atStart => exact ⟨(wrap64 ((wrap64 (x1_16 + 1)) + 1)), (by first | rfl | (simp; done) | (simp [*]; done)), H', ⟨Nat.le_refl _⟩, by repeat (first | exact Drawn0.refl _ | apply Drawn0.step)⟩
                                      case round =>
                                        clear H'
                                        try clear c1
                                        try clear p1
                                        try clear q1
                                        try clear hx1
                                        try clear c2
                                        try clear p2
                                        try clear c3
                                        try clear c4
                                        try clear c4b0
                                        try clear c5
                                        try clear c5b0
                                        try clear p6
                                        try clear c7
                                        try clear c7b0
                                        try clear c7b1
                                        try clear c8
                                        try clear c8b0
                                        try clear c8b1
                                        try clear c10
                                        try clear c10b0
                                        try clear p10
                                        try clear q10
                                        try clear hx10
                                        try clear c11
                                        try clear c11b0
                                        try clear p11
                                        try clear q11
                                        try clear hx11
                                        try clear c12
                                        try clear c12b0
                                        try clear c13
                                        try clear c13b0
                                        try clear c14
                                        try clear c14b0
                                        try clear c14b1
                                        try clear c15
                                        try clear c15b0
                                        try clear c16
                                        try clear c16b0
                                        try clear c18
                                        try clear c18b0
                                        try clear c18b1
                                        try clear c19
                                        try clear c19b0
                                        try clear c20
                                        try clear c20b0
                                        try clear c21
                                        try clear c21b0
                                        try clear c22
                                        try clear c22b0
                                        try clear c23
                                        try clear c23b0
                                        try clear c23b1
                                        try clear c24
                                        try clear c24b0
                                        try clear c25
                                        try clear c25b0
                                        try clear c27
                                        try clear c27b0
                                        try clear c27b1
                                        try clear c28
                                        try clear c28b0
                                        try clear c28b1
                                        try clear c31
                                        try clear c31b0
                                        try clear c32
                                        try clear c32b0
                                        try clear c33
                                        try clear c33b0
                                        try clear c34
                                        try clear hx109_0
                                        try clear hx110_0
                                        try clear hx111_0
                                        try clear hx112_0
                                        try clear hx113_0
                                        try clear hx114_0
                                        try clear hx115_0
                                        try clear hx116_0
                                        try clear hx117_0
                                        try clear p1
                                        try clear p10
                                        try clear p109
                                        try clear p11
                                        try clear p110
                                        try clear p111
                                        try clear p112
                                        try clear p113
                                        try clear p114
                                        try clear p115
                                        try clear p116
                                        try clear p117
                                        try clear p2
                                        try clear p6
                                        try clear q1
                                        try clear q10
                                        try clear q109
                                        try clear q11
                                        try clear q110
                                        try clear q111
                                        try clear q112
                                        try clear q113
                                        try clear q114
                                        try clear q115
                                        try clear q116
                                        try clear q117
                                        obtain ⟨x1_4, rfl, HA, HK4, ⟨m4, rfl⟩⟩ := hrel
                                        cases gk with
                                        | zero => exact absurd HA.out (by simp [gjson_validnumber.l1])
                                        | succ k4 =>
                                          have H := HA.out
                                          clear HA
                                          simp only [gjson_validnumber.l1] at H
                                          by_cases c35 : x1_4 < (l0.length : Int)
                                          · rw [if_pos c35] at H
                                            have c35b0 : decide (x1_4 < (l0.length : Int)) = true := decide_eq_true c35
                                            clear c35
                                            by_cases c36 : 0 ≤ x1_4
                                            · rw [if_pos c36] at H
                                              have c36b0 : decide (0 ≤ x1_4) = true := decide_eq_true c36
                                              clear c36
                                              by_cases c37 : (rd l0 x1_4) ≥ 48
                                              · rw [if_pos c37] at H
                                                have c37b0 : decide (48 ≤ (rd l0 x1_4)) = true := decide_eq_true c37
                                                clear c37
                                                by_cases c38 : (rd l0 x1_4) ≤ 57
                                                · rw [if_pos c38] at H
                                                  have c38b0 : decide ((rd l0 x1_4) ≤ 57) = true := decide_eq_true c38
                                                  clear c38
                                                  have H' := Aside0.mk H
                                                  clear H
                                                  have p118 : 0 ≤ (x1_4 : Int) := of_decide_eq_true (by first | (with_reducible assumption) | assumption)
                                                  have q118 : x1_4 < (l0.length : Int) := of_decide_eq_true (by first | (with_reducible assumption) | assumption)
                                                  obtain ⟨ad118, e118, hx118_0⟩ := Kd.at_int HR0.out x1_4 p118 q118
                                                  obtain rfl : ad109 = ad118 := (by injection e118)
                                                  replace p118 := eq_true p118
                                                  replace q118 := eq_true q118
                                                  have p119 : 0 ≤ (x1_4 : Int) := of_decide_eq_true (by first | (with_reducible assumption) | assumption)
                                                  have q119 : x1_4 < (l0.length : Int) := of_decide_eq_true (by first | (with_reducible assumption) | assumption)
                                                  obtain ⟨ad119, e119, hx119_0⟩ := Kd.at_int HR0.out x1_4 p119 q119
                                                  obtain rfl : ad109 = ad119 := (by injection e119)
                                                  replace p119 := eq_true p119
                                                  replace q119 := eq_true q119
                                                  go_wp2
                                                  go_roundg k4
                                                  case measure => have := HJ5.out; have := HJ16.out; have := HJ28.out; have := HK4.out; omega
                                                  case rel => exact ⟨(wrap64 (x1_4 + 1)), (by first | rfl | (simp; done) | (simp [*]; done)), H', ⟨by have := HJ5.out; have := HJ16.out; have := HJ28.out; have := HK4.out; omega⟩, by repeat (first | exact Drawn0.refl _ | apply Drawn0.step)⟩
                                                · rw [if_neg c38] at H
                                                  have c38b0 : decide ((rd l0 x1_4) ≤ 57) = false := decide_eq_false c38
                                                  clear c38
                                                  have H' := Aside0.mk H
                                                  clear H
                                                  have p118 : 0 ≤ (x1_4 : Int) := of_decide_eq_true (by first | (with_reducible assumption) | assumption)
                                                  have q118 : x1_4 < (l0.length : Int) := of_decide_eq_true (by first | (with_reducible assumption) | assumption)
                                                  obtain ⟨ad118, e118, hx118_0⟩ := Kd.at_int HR0.out x1_4 p118 q118
                                                  obtain rfl : ad109 = ad118 := (by injection e118)
                                                  replace p118 := eq_true p118
                                                  replace q118 := eq_true q118
                                                  have p119 : 0 ≤ (x1_4 : Int) := of_decide_eq_true (by first | (with_reducible assumption) | assumption)
                                                  have q119 : x1_4 < (l0.length : Int) := of_decide_eq_true (by first | (with_reducible assumption) | assumption)
                                                  obtain ⟨ad119, e119, hx119_0⟩ := Kd.at_int HR0.out x1_4 p119 q119
                                                  obtain rfl : ad109 = ad119 := (by injection e119)
                                                  replace p119 := eq_true p119
                                                  replace q119 := eq_true q119
                                                  go_wp2
                                                  go_meet
                                                  case rel => exact ⟨_, (x1_4), (by first | rfl | (simp; done) | (simp [*]; done)), H', ⟨by have := HJ5.out; have := HJ16.out; have := HJ28.out; have := HK4.out; first | omega | exact Nat.le_refl _⟩, by repeat (first | exact Drawn0.refl _ | apply Drawn0.step)⟩
                                              · rw [if_neg c37] at H
                                                have c37b0 : decide (48 ≤ (rd l0 x1_4)) = false := decide_eq_false c37
                                                clear c37
                                                have H' := Aside0.mk H
                                                clear H
                                                have p118 : 0 ≤ (x1_4 : Int) := of_decide_eq_true (by first | (with_reducible assumption) | assumption)
                                                have q118 : x1_4 < (l0.length : Int) := of_decide_eq_true (by first | (with_reducible assumption) | assumption)
                                                obtain ⟨ad118, e118, hx118_0⟩ := Kd.at_int HR0.out x1_4 p118 q118
                                                obtain rfl : ad109 = ad118 := (by injection e118)
                                                replace p118 := eq_true p118
                                                replace q118 := eq_true q118
                                                go_wp2
                                                go_meet
                                                case rel => exact ⟨_, (x1_4), (by first | rfl | (simp; done) | (simp [*]; done)), H', ⟨by have := HJ5.out; have := HJ16.out; have := HJ28.out; have := HK4.out; first | omega | exact Nat.le_refl _⟩, by repeat (first | exact Drawn0.refl _ | apply Drawn0.step)⟩
                                            · rw [if_neg c36] at H
                                              exact absurd H (by simp)
                                          · rw [if_neg c35] at H
                                            have c35b0 : decide (x1_4 < (l0.length : Int)) = false := decide_eq_false c35
                                            clear c35
                                            have H' := Aside0.mk H
                                            clear H
                                            go_wp2
                                            go_meet
                                            case rel => exact ⟨_, (x1_4), (by first | rfl | (simp; done) | (simp [*]; done)), H', ⟨by have := HJ5.out; have := HJ16.out; have := HJ28.out; have := HK4.out; first | omega | exact Nat.le_refl _⟩, by repeat (first | exact Drawn0.refl _ | apply Drawn0.step)⟩
                            · rw [if_neg c27] at H
                              have c27b0 : ((rd l0 x1_16) == 46) = false := beq_eq_false_iff_ne.mpr c27
                              have c27b1 : ((rd l0 x1_16) != 46) = true := bne_iff_ne.mpr c27
                              (first | rw [c27b0] | (simp only [i64_w, i32_w]; rw [c27b0]) | skip)
                              have H' := Aside0.mk H
                              clear H
                              go_wp2
                              go_meet
                              case rel => exact ⟨_, (x1_16), (by first | rfl | (simp; done) | (simp [*]; done)), H', ⟨by have := HJ5.out; have := HJ16.out; first | omega | exact Nat.le_refl _⟩, by repeat (first | exact Drawn0.refl _ | apply Drawn0.step)⟩
                          case rest => as_aux_lemma =>
                            clear HC26
                            try clear c1
                            try clear p1
                            try clear q1
                            try clear hx1
                            try clear c2
                            try clear p2
                            try clear c3
                            try clear c4
                            try clear c4b0
                            try clear c5
                            try clear c5b0
                            try clear p6
                            try clear c7
                            try clear c7b0
                            try clear c7b1
                            try clear c8
                            try clear c8b0
                            try clear c8b1
                            try clear c10
                            try clear c10b0
                            try clear p10
                            try clear q10
                            try clear hx10
                            try clear c11
                            try clear c11b0
                            try clear p11
                            try clear q11
                            try clear hx11
                            try clear c12
                            try clear c12b0
                            try clear c13
                            try clear c13b0
                            try clear c14
                            try clear c14b0
                            try clear c14b1
                            try clear c15
                            try clear c15b0
                            try clear c16
                            try clear c16b0
                            try clear c18
                            try clear c18b0
                            try clear c18b1
                            try clear c19
                            try clear c19b0
                            try clear c20
                            try clear c20b0
                            try clear c21
                            try clear c21b0
                            try clear c22
                            try clear c22b0
                            try clear c23
                            try clear c23b0
                            try clear c23b1
                            try clear c24
                            try clear c24b0
                            try clear c25
                            try clear c25b0
                            try clear c27
                            try clear c27b0
                            try clear c27b1
                            try clear c28
                            try clear c28b0
                            try clear c28b1
                            try clear c31
                            try clear c31b0
                            try clear c32
                            try clear c32b0
                            try clear c33
                            try clear c33b0
                            try clear c34
                            try clear c35
                            try clear c35b0
                            try clear c36
                            try clear c36b0
                            try clear c37
                            try clear c37b0
                            try clear c38
                            try clear c38b0
                            try clear hx109_0
                            try clear hx110_0
                            try clear hx111_0
                            try clear hx112_0
                            try clear hx113_0
                            try clear hx114_0
                            try clear hx115_0
                            try clear hx116_0
                            try clear hx117_0
                            try clear hx118_0
                            try clear hx119_0
                            try clear p1
                            try clear p10
                            try clear p109
                            try clear p11
                            try clear p110
                            try clear p111
                            try clear p112
                            try clear p113
                            try clear p114
                            try clear p115
                            try clear p116
                            try clear p117
                            try clear p118
                            try clear p119
                            try clear p2
                            try clear p6
                            try clear q1
                            try clear q10
                            try clear q109
                            try clear q11
                            try clear q110
                            try clear q111
                            try clear q112
                            try clear q113
                            try clear q114
                            try clear q115
                            try clear q116
                            try clear q117
                            try clear q118
                            try clear q119
                            obtain ⟨kq, x1_25, rfl, HA, HJ25, ⟨mc25, rfl⟩⟩ := hcut
                            cases kq with
                            | zero => exact absurd HA.out (by simp [gjson_validnumber.j5])
                            | succ kj25 =>
                              have H := HA.out
                              clear HA
                              simp only [gjson_validnumber.j5] at H
                              by_cases c39 : x1_25 = (l0.length : Int)
                              · rw [if_pos c39] at H
                                have c39b0 : (x1_25 == (l0.length : Int)) = true := beq_iff_eq.mpr c39
                                have c39b1 : (x1_25 != (l0.length : Int)) = false := bne_eq_false_iff_eq.mpr c39
                                clear c39
                                simp only [Option.some.injEq, Prod.mk.injEq] at H
                                obtain ⟨rfl, rfl⟩ := H
                                go_wp2
                                go_ret2
                                exact ⟨by first | rfl | (simp; done) | (simp only [← hji3] <;> (first | rfl | simp)) | (simp [*]; done), by repeat (first | exact Drawn0.refl _ | apply Drawn0.step)⟩
                              · rw [if_neg c39] at H
                                have c39b0 : (x1_25 == (l0.length : Int)) = false := beq_eq_false_iff_ne.mpr c39
                                have c39b1 : (x1_25 != (l0.length : Int)) = true := bne_iff_ne.mpr c39
                                have HC40 := Aside0.mk H
                                clear H
                                go_upto_region 29 with (fail)
                                go_cut [129] (fun v129 wc => ∃ (kq : Nat) (x129_39 : Bool), v129 = .bool x129_39 ∧ Aside0 (gjson_validnumber.j6 kq l0 x1_25 x129_39 = some (r1, r2)) ∧ Aside0 (kq ≤ kj25) ∧ Drawn0 w wc)
                                case first => as_aux_lemma =>
                                  have H := HC40.out
                                  clear HC40
                                  by_cases c41 : 0 ≤ x1_25
                                  · rw [if_pos c41] at H
                                    have c41b0 : decide (0 ≤ x1_25) = true := decide_eq_true c41
                                    clear c41
                                    (first | rw [c41b0] | (simp only [i64_w, i32_w]; rw [c41b0]) | skip)
                                    by_cases c42 : x1_25 < (l0.length : Int)
                                    · rw [if_pos c42] at H
                                      have c42b0 : decide (x1_25 < (l0.length : Int)) = true := decide_eq_true c42
                                      clear c42
                                      by_cases c43 : (rd l0 x1_25) = 101
                                      · rw [if_pos c43] at H
                                        have c43b0 : ((rd l0 x1_25) == 101) = true := beq_iff_eq.mpr c43
                                        have c43b1 : ((rd l0 x1_25) != 101) = false := bne_eq_false_iff_eq.mpr c43
                                        clear c43
                                        have H' := Aside0.mk H
                                        clear H
                                        have p120 : 0 ≤ (x1_25 : Int) := of_decide_eq_true (by first | (with_reducible assumption) | assumption)
                                        have q120 : x1_25 < (l0.length : Int) := of_decide_eq_true (by first | (with_reducible assumption) | assumption)
                                        obtain ⟨ad120, e120, hx120_0⟩ := Kd.at_int HR0.out x1_25 p120 q120
                                        obtain rfl : ad109 = ad120 := (by injection e120)
                                        replace p120 := eq_true p120
                                        replace q120 := eq_true q120
                                        go_wp2
                                        go_meet
                                        case rel => exact ⟨_, (true), (by first | rfl | (simp; done) | (simp [*]; done)), H', ⟨by have := HJ5.out; have := HJ16.out; have := HJ25.out; first | omega | exact Nat.le_refl _⟩, by repeat (first | exact Drawn0.refl _ | apply Drawn0.step)⟩
                                      · rw [if_neg c43] at H
                                        have c43b0 : ((rd l0 x1_25) == 101) = false := beq_eq_false_iff_ne.mpr c43
                                        have c43b1 : ((rd l0 x1_25) != 101) = true := bne_iff_ne.mpr c43
                                        have H' := Aside0.mk H
                                        clear H
                                        have p120 : 0 ≤ (x1_25 : Int) := of_decide_eq_true (by first | (with_reducible assumption) | assumption)
                                        have q120 : x1_25 < (l0.length : Int) := of_decide_eq_true (by first | (with_reducible assumption) | assumption)
                                        obtain ⟨ad120, e120, hx120_0⟩ := Kd.at_int HR0.out x1_25 p120 q120
                                        obtain rfl : ad109 = ad120 := (by injection e120)
                                        replace p120 := eq_true p120
                                        replace q120 := eq_true q120
                                        have p121 : 0 ≤ (x1_25 : Int) := of_decide_eq_true (by first | (with_reducible assumption) | assumption)
                                        have q121 : x1_25 < (l0.length : Int) := of_decide_eq_true (by first | (with_reducible assumption) | assumption)
                                        obtain ⟨ad121, e121, hx121_0⟩ := Kd.at_int HR0.out x1_25 p121 q121
                                        obtain rfl : ad109 = ad121 := (by injection e121)
                                        replace p121 := eq_true p121
                                        replace q121 := eq_true q121
                                        go_wp2
                                        go_meet
                                        case rel => exact ⟨_, (((rd l0 x1_25) == 69)), (by first | rfl | (simp; done) | (simp [*]; done)), H', ⟨by have := HJ5.out; have := HJ16.out; have := HJ25.out; first | omega | exact Nat.le_refl _⟩, by repeat (first | exact Drawn0.refl _ | apply Drawn0.step)⟩
                                    · rw [if_neg c42] at H
                                      exact absurd H (by simp)
                                  · rw [if_neg c41] at H
                                    exact absurd H (by simp)
                                case rest => as_aux_lemma =>
                                  clear HC40
                                  try clear c1
                                  try clear p1
                                  try clear q1
                                  try clear hx1
                                  try clear c2
                                  try clear p2
                                  try clear c3
                                  try clear c4
                                  try clear c4b0
                                  try clear c5
                                  try clear c5b0
                                  try clear p6
                                  try clear c7
                                  try clear c7b0
                                  try clear c7b1
                                  try clear c8
                                  try clear c8b0
                                  try clear c8b1
                                  try clear c10
                                  try clear c10b0
                                  try clear p10
                                  try clear q10
                                  try clear hx10
                                  try clear c11
                                  try clear c11b0
                                  try clear p11
                                  try clear q11
                                  try clear hx11
                                  try clear c12
                                  try clear c12b0
                                  try clear p12
                                  try clear q12
                                  try clear hx12
                                  try clear c13
                                  try clear c13b0
                                  try clear c14
                                  try clear c14b0
                                  try clear c14b1
                                  try clear c15
                                  try clear c15b0
                                  try clear c16
                                  try clear c16b0
                                  try clear c18
                                  try clear c18b0
                                  try clear c18b1
                                  try clear c19
                                  try clear c19b0
                                  try clear c20
                                  try clear c20b0
                                  try clear c21
                                  try clear c21b0
                                  try clear c22
                                  try clear c22b0
                                  try clear c23
                                  try clear c23b0
                                  try clear c23b1
                                  try clear c24
                                  try clear c24b0
                                  try clear c25
                                  try clear c25b0
                                  try clear c27
                                  try clear c27b0
                                  try clear c27b1
                                  try clear c28
                                  try clear c28b0
                                  try clear c28b1
                                  try clear c31
                                  try clear c31b0
                                  try clear c32
                                  try clear c32b0
                                  try clear c33
                                  try clear c33b0
                                  try clear c34
                                  try clear c35
                                  try clear c35b0
                                  try clear c36
                                  try clear c36b0
                                  try clear c37
                                  try clear c37b0
                                  try clear c38
                                  try clear c38b0
                                  try clear c39
                                  try clear c39b0
                                  try clear c39b1
                                  try clear c41
                                  try clear c41b0
                                  try clear c42
                                  try clear c42b0
                                  try clear c43
                                  try clear c43b0
                                  try clear c43b1
                                  try clear hx109_0
                                  try clear hx110_0
                                  try clear hx111_0
                                  try clear hx112_0
                                  try clear hx113_0
                                  try clear hx114_0
                                  try clear hx115_0
                                  try clear hx116_0
                                  try clear hx117_0
                                  try clear hx118_0
                                  try clear hx119_0
                                  try clear hx120_0
                                  try clear hx121_0
                                  try clear p1
                                  try clear p10
                                  try clear p109
                                  try clear p11
                                  try clear p110
                                  try clear p111
                                  try clear p112
                                  try clear p113
                                  try clear p114
                                  try clear p115
                                  try clear p116
                                  try clear p117
                                  try clear p118
                                  try clear p119
                                  try clear p120
                                  try clear p121
                                  try clear p2
                                  try clear p6
                                  try clear q1
                                  try clear q10
                                  try clear q109
                                  try clear q11
                                  try clear q110
                                  try clear q111
                                  try clear q112
                                  try clear q113
                                  try clear q114
                                  try clear q115
                                  try clear q116
                                  try clear q117
                                  try clear q118
                                  try clear q119
                                  try clear q120
                                  try clear q121
                                  obtain ⟨kq, x129_39, rfl, HA, HJ39, ⟨mc39, rfl⟩⟩ := hcut
                                  cases kq with
                                  | zero => exact absurd HA.out (by simp [gjson_validnumber.j6])
                                  | succ kj39 =>
                                    have H := HA.out
                                    clear HA
                                    simp only [gjson_validnumber.j6] at H
                                    by_cases c44 : x129_39 = true
                                    · subst c44
                                      have H1 : (if (wrap64 (x1_25 + 1)) = (l0.length : Int) then (some (wrap64 (x1_25 + 1), false)) else (if 0 ≤ (wrap64 (x1_25 + 1)) then (if (wrap64 (x1_25 + 1)) < (l0.length : Int) then (if (rd l0 (wrap64 (x1_25 + 1))) = 43 then (gjson_validnumber.j7 kj39 l0 (wrap64 (x1_25 + 1)) true) else (gjson_validnumber.j7 kj39 l0 (wrap64 (x1_25 + 1)) ((rd l0 (wrap64 (x1_25 + 1))) == 45))) else (none)) else (none))) = some (r1, r2) := by rw [if_pos rfl] at H; exact H
                                      clear H
                                      have H := H1
                                      clear H1
                                      by_cases c45 : (wrap64 (x1_25 + 1)) = (l0.length : Int)
                                      · rw [if_pos c45] at H
                                        have c45b0 : ((wrap64 (x1_25 + 1)) == (l0.length : Int)) = true := beq_iff_eq.mpr c45
                                        have c45b1 : ((wrap64 (x1_25 + 1)) != (l0.length : Int)) = false := bne_eq_false_iff_eq.mpr c45
                                        clear c45
                                        simp only [Option.some.injEq, Prod.mk.injEq] at H
                                        obtain ⟨rfl, rfl⟩ := H
                                        go_wp2
                                        go_ret2
                                        exact ⟨by first | rfl | (simp; done) | (simp only [← hji3] <;> (first | rfl | simp)) | (simp [*]; done), by repeat (first | exact Drawn0.refl _ | apply Drawn0.step)⟩
                                      · rw [if_neg c45] at H
                                        have c45b0 : ((wrap64 (x1_25 + 1)) == (l0.length : Int)) = false := beq_eq_false_iff_ne.mpr c45
                                        have c45b1 : ((wrap64 (x1_25 + 1)) != (l0.length : Int)) = true := bne_iff_ne.mpr c45
                                        have HC46 := Aside0.mk H
                                        clear H
                                        go_upto_region 33 with (fail)
                                        go_cut [148] (fun v148 wc => ∃ (kq : Nat) (x148_45 : Bool), v148 = .bool x148_45 ∧ Aside0 (gjson_validnumber.j7 kq l0 (wrap64 (x1_25 + 1)) x148_45 = some (r1, r2)) ∧ Aside0 (kq ≤ kj39) ∧ Drawn0 w wc)
                                        case first => as_aux_lemma =>
                                          have H := HC46.out
                                          clear HC46
                                          obtain ⟨ji47, hji47⟩ : ∃ j_ : Int, (wrap64 (x1_25 + 1)) = j_ := ⟨_, rfl⟩
                                          replace H : (if 0 ≤ (ji47) then (if (ji47) < (l0.length : Int) then (if (rd l0 (ji47)) = 43 then (gjson_validnumber.j7 kj39 l0 ji47 true) else (gjson_validnumber.j7 kj39 l0 ji47 ((rd l0 (ji47)) == 45))) else (none)) else (none)) = some (r1, r2) := by first | (rw [hji47] at H; exact H) | (simp only [hji47] at H ⊢; exact H)
                                          (try rw [hji47] at c45b0)
                                          (try rw [hji47] at c45b1)
                                          have hji47w : (IntKind.i64.wrap (x1_25 + 1)) = ji47 := (i64_w _).trans hji47
                                          by_cases c48 : 0 ≤ (ji47)
                                          · rw [if_pos c48] at H
                                            have c48b0 : decide (0 ≤ (ji47)) = true := decide_eq_true c48
                                            clear c48
                                            (first | rw [c48b0] | (simp only [i64_w, i32_w]; rw [c48b0]) | skip)
                                            by_cases c49 : (ji47) < (l0.length : Int)
                                            · rw [if_pos c49] at H
                                              have c49b0 : decide ((ji47) < (l0.length : Int)) = true := decide_eq_true c49
                                              clear c49
                                              by_cases c50 : (rd l0 (ji47)) = 43
                                              · rw [if_pos c50] at H
                                                have c50b0 : ((rd l0 (ji47)) == 43) = true := beq_iff_eq.mpr c50
                                                have c50b1 : ((rd l0 (ji47)) != 43) = false := bne_eq_false_iff_eq.mpr c50
                                                clear c50
                                                have H' := Aside0.mk H
                                                clear H
                                                have p122 : 0 ≤ ((ji47) : Int) := of_decide_eq_true (by first | (with_reducible assumption) | assumption)
                                                have q122 : (ji47) < (l0.length : Int) := of_decide_eq_true (by first | (with_reducible assumption) | assumption)
                                                obtain ⟨ad122, e122, hx122_0⟩ := Kd.at_int HR0.out (ji47) p122 q122
                                                obtain rfl : ad109 = ad122 := (by injection e122)
                                                replace p122 := eq_true p122
                                                replace q122 := eq_true q122
                                                go_wp2
                                                subst hji47
                                                go_meet
                                                case rel => exact ⟨_, (true), (by first | rfl | (simp; done) | (simp [*]; done)), H', ⟨by have := HJ5.out; have := HJ16.out; have := HJ25.out; have := HJ39.out; first | omega | exact Nat.le_refl _⟩, by repeat (first | exact Drawn0.refl _ | apply Drawn0.step)⟩
                                              · rw [if_neg c50] at H
                                                have c50b0 : ((rd l0 (ji47)) == 43) = false := beq_eq_false_iff_ne.mpr c50
                                                have c50b1 : ((rd l0 (ji47)) != 43) = true := bne_iff_ne.mpr c50
                                                have H' := Aside0.mk H
                                                clear H
                                                have p122 : 0 ≤ ((ji47) : Int) := of_decide_eq_true (by first | (with_reducible assumption) | assumption)
                                                have q122 : (ji47) < (l0.length : Int) := of_decide_eq_true (by first | (with_reducible assumption) | assumption)
                                                obtain ⟨ad122, e122, hx122_0⟩ := Kd.at_int HR0.out (ji47) p122 q122
                                                obtain rfl : ad109 = ad122 := (by injection e122)
                                                replace p122 := eq_true p122
                                                replace q122 := eq_true q122
                                                have p123 : 0 ≤ ((ji47) : Int) := of_decide_eq_true (by first | (with_reducible assumption) | assumption)
                                                have q123 : (ji47) < (l0.length : Int) := of_decide_eq_true (by first | (with_reducible assumption) | assumption)
                                                obtain ⟨ad123, e123, hx123_0⟩ := Kd.at_int HR0.out (ji47) p123 q123
                                                obtain rfl : ad109 = ad123 := (by injection e123)
                                                replace p123 := eq_true p123
                                                replace q123 := eq_true q123
                                                go_wp2
                                                subst hji47
                                                go_meet
                                                case rel => exact ⟨_, (((rd l0 ((wrap64 (x1_25 + 1)))) == 45)), (by first | rfl | (simp; done) | (simp only [← hji47] <;> (first | rfl | simp)) | (simp [*]; done)), H', ⟨by have := HJ5.out; have := HJ16.out; have := HJ25.out; have := HJ39.out; first | omega | exact Nat.le_refl _⟩, by repeat (first | exact Drawn0.refl _ | apply Drawn0.step)⟩
                                            · rw [if_neg c49] at H
                                              exact absurd H (by simp)
                                          · rw [if_neg c48] at H
                                            exact absurd H (by simp)
                                        case rest => as_aux_lemma =>
                                          clear HC46
                                          try clear c1
                                          try clear p1
                                          try clear q1
                                          try clear hx1
                                          try clear c2
                                          try clear p2
                                          try clear c3
                                          try clear c4
                                          try clear c4b0
                                          try clear c5
                                          try clear c5b0
                                          try clear p6
                                          try clear c7
                                          try clear c7b0
                                          try clear c7b1
                                          try clear c8
                                          try clear c8b0
                                          try clear c8b1
                                          try clear c10
                                          try clear c10b0
                                          try clear p10
                                          try clear q10
                                          try clear hx10
                                          try clear c11
                                          try clear c11b0
                                          try clear p11
                                          try clear q11
                                          try clear hx11
                                          try clear c12
                                          try clear c12b0
                                          try clear p12
                                          try clear q12
                                          try clear hx12
                                          try clear c13
                                          try clear c13b0
                                          try clear c14
                                          try clear c14b0
                                          try clear c14b1
                                          try clear c15
                                          try clear c15b0
                                          try clear c16
                                          try clear c16b0
                                          try clear c18
                                          try clear c18b0
                                          try clear c18b1
                                          try clear c19
                                          try clear c19b0
                                          try clear c20
                                          try clear c20b0
                                          try clear c21
                                          try clear c21b0
                                          try clear c22
                                          try clear c22b0
                                          try clear c23
                                          try clear c23b0
                                          try clear c23b1
                                          try clear c24
                                          try clear c24b0
                                          try clear c25
                                          try clear c25b0
                                          try clear c27
                                          try clear c27b0
                                          try clear c27b1
                                          try clear c28
                                          try clear c28b0
                                          try clear c28b1
                                          try clear c31
                                          try clear c31b0
                                          try clear c32
                                          try clear c32b0
                                          try clear c33
                                          try clear c33b0
                                          try clear c34
                                          try clear c35
                                          try clear c35b0
                                          try clear c36
                                          try clear c36b0
                                          try clear c37
                                          try clear c37b0
                                          try clear c38
                                          try clear c38b0
                                          try clear c39
                                          try clear c39b0
                                          try clear c39b1
                                          try clear c41
                                          try clear c41b0
                                          try clear c42
                                          try clear c42b0
                                          try clear c43
                                          try clear c43b0
                                          try clear c43b1
                                          try clear c44
                                          try clear c45
                                          try clear c45b0
                                          try clear c45b1
                                          try clear c48
                                          try clear c48b0
                                          try clear c49
                                          try clear c49b0
                                          try clear c50
                                          try clear c50b0
                                          try clear c50b1
                                          try clear hx109_0
                                          try clear hx110_0
                                          try clear hx111_0
                                          try clear hx112_0
                                          try clear hx113_0
                                          try clear hx114_0
                                          try clear hx115_0
                                          try clear hx116_0
                                          try clear hx117_0
                                          try clear hx118_0
                                          try clear hx119_0
                                          try clear hx120_0
                                          try clear hx121_0
                                          try clear hx122_0
                                          try clear hx123_0
                                          try clear p1
                                          try clear p10
                                          try clear p109
                                          try clear p11
                                          try clear p110
                                          try clear p111
                                          try clear p112
                                          try clear p113
                                          try clear p114
                                          try clear p115
                                          try clear p116
                                          try clear p117
                                          try clear p118
                                          try clear p119
                                          try clear p12
                                          try clear p120
                                          try clear p121
                                          try clear p122
                                          try clear p123
                                          try clear p2
                                          try clear p6
                                          try clear q1
                                          try clear q10
                                          try clear q109
                                          try clear q11
                                          try clear q110
                                          try clear q111
                                          try clear q112
                                          try clear q113
                                          try clear q114
                                          try clear q115
                                          try clear q116
                                          try clear q117
                                          try clear q118
                                          try clear q119
                                          try clear q12
                                          try clear q120
                                          try clear q121
                                          try clear q122
                                          try clear q123
                                          obtain ⟨kq, x148_45, rfl, HA, HJ45, ⟨mc45, rfl⟩⟩ := hcut
                                          cases kq with
                                          | zero => exact absurd HA.out (by simp [gjson_validnumber.j7])
                                          | succ kj45 =>
                                            have H := HA.out
                                            clear HA
                                            simp only [gjson_validnumber.j7] at H
                                            have HC51 := Aside0.mk H
                                            clear H
                                            go_upto_if 148 with (fail)
                                            go_cut [1] (fun v1 wc => ∃ (kq : Nat) (x1_50 : Int), v1 = .int .i64 x1_50 ∧ Aside0 (gjson_validnumber.j8 kq l0 x1_50 = some (r1, r2)) ∧ Aside0 (kq ≤ kj45) ∧ Drawn0 w wc)
                                            case first => as_aux_lemma =>
                                              have H := HC51.out
                                              clear HC51
                                              by_cases c52 : x148_45 = true
                                              · subst c52
                                                have H1 : (gjson_validnumber.j8 kj45 l0 (wrap64 ((wrap64 (x1_25 + 1)) + 1))) = some (r1, r2) := by rw [if_pos rfl] at H; exact H
                                                clear H
                                                have H := H1
                                                clear H1
                                                have H' := Aside0.mk H
                                                clear H
                                                go_wp2
                                                go_meet
                                                case rel => exact ⟨_, (wrap64 ((wrap64 (x1_25 + 1)) + 1)), (by first | rfl | (simp; done) | (simp [*]; done)), H', ⟨by have := HJ5.out; have := HJ16.out; have := HJ25.out; have := HJ39.out; have := HJ45.out; first | omega | exact Nat.le_refl _⟩, by repeat (first | exact Drawn0.refl _ | apply Drawn0.step)⟩
                                              · replace c52 := Bool.eq_false_iff.mpr c52
                                                subst c52
                                                have H1 : (gjson_validnumber.j8 kj45 l0 (wrap64 (x1_25 + 1))) = some (r1, r2) := by rw [if_neg (show ¬ (false = true) by decide)] at H; exact H
                                                clear H
                                                have H := H1
                                                clear H1
                                                have H' := Aside0.mk H
                                                clear H
                                                go_wp2
                                                go_meet
                                                case rel => exact ⟨_, ((wrap64 (x1_25 + 1))), (by first | rfl | (simp; done) | (simp [*]; done)), H', ⟨by have := HJ5.out; have := HJ16.out; have := HJ25.out; have := HJ39.out; have := HJ45.out; first | omega | exact Nat.le_refl _⟩, by repeat (first | exact Drawn0.refl _ | apply Drawn0.step)⟩
                                            case rest => as_aux_lemma =>
                                              clear HC51
                                              try clear c1
                                              try clear p1
                                              try clear q1
                                              try clear hx1
                                              try clear c2
                                              try clear p2
                                              try clear c3
                                              try clear c4
                                              try clear c4b0
                                              try clear c5
                                              try clear c5b0
                                              try clear p6
                                              try clear c7
                                              try clear c7b0
                                              try clear c7b1
                                              try clear c8
                                              try clear c8b0
                                              try clear c8b1
                                              try clear c10
                                              try clear c10b0
                                              try clear p10
                                              try clear q10
                                              try clear hx10
                                              try clear c11
                                              try clear c11b0
                                              try clear p11
                                              try clear q11
                                              try clear hx11
                                              try clear c12
                                              try clear c12b0
                                              try clear p12
                                              try clear q12
                                              try clear hx12
                                              try clear c13
                                              try clear c13b0
                                              try clear c14
                                              try clear c14b0
                                              try clear c14b1
                                              try clear c15
                                              try clear c15b0
                                              try clear c16
                                              try clear c16b0
                                              try clear c18
                                              try clear c18b0
                                              try clear c18b1
                                              try clear c19
                                              try clear c19b0
                                              try clear c20
                                              try clear c20b0
                                              try clear c21
                                              try clear c21b0
                                              try clear c22
                                              try clear c22b0
                                              try clear c23
                                              try clear c23b0
                                              try clear c23b1
                                              try clear c24
                                              try clear c24b0
                                              try clear c25
                                              try clear c25b0
                                              try clear c27
                                              try clear c27b0
                                              try clear c27b1
                                              try clear c28
                                              try clear c28b0
                                              try clear c28b1
                                              try clear c31
                                              try clear c31b0
                                              try clear c32
                                              try clear c32b0
                                              try clear c33
                                              try clear c33b0
                                              try clear c34
                                              try clear c35
                                              try clear c35b0
                                              try clear c36
                                              try clear c36b0
                                              try clear c37
                                              try clear c37b0
                                              try clear c38
                                              try clear c38b0
                                              try clear c39
                                              try clear c39b0
                                              try clear c39b1
                                              try clear c41
                                              try clear c41b0
                                              try clear c42
                                              try clear c42b0
                                              try clear c43
                                              try clear c43b0
                                              try clear c43b1
                                              try clear c44
                                              try clear c45
                                              try clear c45b0
                                              try clear c45b1
                                              try clear c48
                                              try clear c48b0
                                              try clear c49
                                              try clear c49b0
                                              try clear c50
                                              try clear c50b0
                                              try clear c50b1
                                              try clear c52
                                              try clear hx109_0
                                              try clear hx110_0
                                              try clear hx111_0
                                              try clear hx112_0
                                              try clear hx113_0
                                              try clear hx114_0
                                              try clear hx115_0
                                              try clear hx116_0
                                              try clear hx117_0
                                              try clear hx118_0
                                              try clear hx119_0
                                              try clear hx120_0
                                              try clear hx121_0
                                              try clear hx122_0
                                              try clear hx123_0
                                              try clear p1
                                              try clear p10
                                              try clear p109
                                              try clear p11
                                              try clear p110
                                              try clear p111
                                              try clear p112
                                              try clear p113
                                              try clear p114
                                              try clear p115
                                              try clear p116
                                              try clear p117
                                              try clear p118
                                              try clear p119
                                              try clear p12
                                              try clear p120
                                              try clear p121
                                              try clear p122
                                              try clear p123
                                              try clear p2
                                              try clear p6
                                              try clear q1
                                              try clear q10
                                              try clear q109
                                              try clear q11
                                              try clear q110
                                              try clear q111
                                              try clear q112
                                              try clear q113
                                              try clear q114
                                              try clear q115
                                              try clear q116
                                              try clear q117
                                              try clear q118
                                              try clear q119
                                              try clear q12
                                              try clear q120
                                              try clear q121
                                              try clear q122
                                              try clear q123
                                              obtain ⟨kq, x1_50, rfl, HA, HJ50, ⟨mc50, rfl⟩⟩ := hcut
                                              cases kq with
                                              | zero => exact absurd HA.out (by simp [gjson_validnumber.j8])
                                              | succ kj50 =>
                                                have H := HA.out
                                                clear HA
                                                simp only [gjson_validnumber.j8] at H
                                                by_cases c53 : x1_50 = (l0.length : Int)
                                                · rw [if_pos c53] at H
                                                  have c53b0 : (x1_50 == (l0.length : Int)) = true := beq_iff_eq.mpr c53
                                                  have c53b1 : (x1_50 != (l0.length : Int)) = false := bne_eq_false_iff_eq.mpr c53
                                                  clear c53
                                                  simp only [Option.some.injEq, Prod.mk.injEq] at H
                                                  obtain ⟨rfl, rfl⟩ := H
                                                  go_wp2
                                                  go_ret2
                                                  exact ⟨by first | rfl | (simp; done) | (simp only [← hji3] <;> (first | rfl | simp)) | (simp [*]; done), by repeat (first | exact Drawn0.refl _ | apply Drawn0.step)⟩
                                                · rw [if_neg c53] at H
                                                  have c53b0 : (x1_50 == (l0.length : Int)) = false := beq_eq_false_iff_ne.mpr c53
                                                  have c53b1 : (x1_50 != (l0.length : Int)) = true := bne_iff_ne.mpr c53
                                                  have HC54 := Aside0.mk H
                                                  clear H
                                                  go_upto_region 37 with (fail)
                                                  go_cut [167] (fun v167 wc => ∃ (kq : Nat) (x167_53 : Bool), v167 = .bool x167_53 ∧ Aside0 (gjson_validnumber.j9 kq l0 x1_50 x167_53 = some (r1, r2)) ∧ Aside0 (kq ≤ kj50) ∧ Drawn0 w wc)
                                                  case first => as_aux_lemma =>
                                                    have H := HC54.out
                                                    clear HC54
                                                    by_cases c55 : 0 ≤ x1_50
                                                    · rw [if_pos c55] at H
                                                      have c55b0 : decide (0 ≤ x1_50) = true := decide_eq_true c55
                                                      clear c55
                                                      (first | rw [c55b0] | (simp only [i64_w, i32_w]; rw [c55b0]) | skip)
                                                      by_cases c56 : x1_50 < (l0.length : Int)
                                                      · rw [if_pos c56] at H
                                                        have c56b0 : decide (x1_50 < (l0.length : Int)) = true := decide_eq_true c56
                                                        clear c56
                                                        by_cases c57 : (rd l0 x1_50) < 48
                                                        · rw [if_pos c57] at H
                                                          have c57b0 : decide ((rd l0 x1_50) < 48) = true := decide_eq_true c57
                                                          clear c57
                                                          have H' := Aside0.mk H
                                                          clear H
                                                          have p124 : 0 ≤ (x1_50 : Int) := of_decide_eq_true (by first | (with_reducible assumption) | assumption)
                                                          have q124 : x1_50 < (l0.length : Int) := of_decide_eq_true (by first | (with_reducible assumption) | assumption)
                                                          obtain ⟨ad124, e124, hx124_0⟩ := Kd.at_int HR0.out x1_50 p124 q124
                                                          obtain rfl : ad109 = ad124 := (by injection e124)
                                                          replace p124 := eq_true p124
                                                          replace q124 := eq_true q124
                                                          go_wp2
                                                          go_meet
                                                          case rel => exact ⟨_, (true), (by first | rfl | (simp; done) | (simp [*]; done)), H', ⟨by have := HJ5.out; have := HJ16.out; have := HJ25.out; have := HJ39.out; have := HJ45.out; have := HJ50.out; first | omega | exact Nat.le_refl _⟩, by repeat (first | exact Drawn0.refl _ | apply Drawn0.step)⟩
                                                        · rw [if_neg c57] at H
                                                          have c57b0 : decide ((rd l0 x1_50) < 48) = false := decide_eq_false c57
                                                          clear c57
                                                          have H' := Aside0.mk H
                                                          clear H
                                                          have p124 : 0 ≤ (x1_50 : Int) := of_decide_eq_true (by first | (with_reducible assumption) | assumption)
                                                          have q124 : x1_50 < (l0.length : Int) := of_decide_eq_true (by first | (with_reducible assumption) | assumption)
                                                          obtain ⟨ad124, e124, hx124_0⟩ := Kd.at_int HR0.out x1_50 p124 q124
                                                          obtain rfl : ad109 = ad124 := (by injection e124)
                                                          replace p124 := eq_true p124
                                                          replace q124 := eq_true q124
                                                          have p125 : 0 ≤ (x1_50 : Int) := of_decide_eq_true (by first | (with_reducible assumption) | assumption)
                                                          have q125 : x1_50 < (l0.length : Int) := of_decide_eq_true (by first | (with_reducible assumption) | assumption)
                                                          obtain ⟨ad125, e125, hx125_0⟩ := Kd.at_int HR0.out x1_50 p125 q125
                                                          obtain rfl : ad109 = ad125 := (by injection e125)
                                                          replace p125 := eq_true p125
                                                          replace q125 := eq_true q125
                                                          go_wp2
                                                          go_meet
                                                          case rel => exact ⟨_, (decide ((rd l0 x1_50) > 57)), (by first | rfl | (simp; done) | (simp [*]; done)), H', ⟨by have := HJ5.out; have := HJ16.out; have := HJ25.out; have := HJ39.out; have := HJ45.out; have := HJ50.out; first | omega | exact Nat.le_refl _⟩, by repeat (first | exact Drawn0.refl _ | apply Drawn0.step)⟩
                                                      · rw [if_neg c56] at H
                                                        exact absurd H (by simp)
                                                    · rw [if_neg c55] at H
                                                      exact absurd H (by simp)
                                                  case rest => as_aux_lemma =>
                                                    clear HC54
                                                    try clear c1
                                                    try clear p1
                                                    try clear q1
                                                    try clear hx1
                                                    try clear c2
                                                    try clear p2
                                                    try clear c3
                                                    try clear c4
                                                    try clear c4b0
                                                    try clear c5
                                                    try clear c5b0
                                                    try clear p6
                                                    try clear c7
                                                    try clear c7b0
                                                    try clear c7b1
                                                    try clear c8
                                                    try clear c8b0
                                                    try clear c8b1
                                                    try clear c10
                                                    try clear c10b0
                                                    try clear p10
                                                    try clear q10
                                                    try clear hx10
                                                    try clear c11
                                                    try clear c11b0
                                                    try clear p11
                                                    try clear q11
                                                    try clear hx11
                                                    try clear c12
                                                    try clear c12b0
                                                    try clear p12
                                                    try clear q12
                                                    try clear hx12
                                                    try clear c13
                                                    try clear c13b0
                                                    try clear c14
                                                    try clear c14b0
                                                    try clear c14b1
                                                    try clear c15
                                                    try clear c15b0
                                                    try clear c16
                                                    try clear c16b0
                                                    try clear c18
                                                    try clear c18b0
                                                    try clear c18b1
                                                    try clear c19
                                                    try clear c19b0
                                                    try clear c20
                                                    try clear c20b0
                                                    try clear c21
                                                    try clear c21b0
                                                    try clear c22
                                                    try clear c22b0
                                                    try clear c23
                                                    try clear c23b0
                                                    try clear c23b1
                                                    try clear c24
                                                    try clear c24b0
                                                    try clear c25
                                                    try clear c25b0
                                                    try clear c27
                                                    try clear c27b0
                                                    try clear c27b1
                                                    try clear c28
                                                    try clear c28b0
                                                    try clear c28b1
                                                    try clear c31
                                                    try clear c31b0
                                                    try clear c32
                                                    try clear c32b0
                                                    try clear c33
                                                    try clear c33b0
                                                    try clear c34
                                                    try clear c35
                                                    try clear c35b0
                                                    try clear c36
                                                    try clear c36b0
                                                    try clear c37
                                                    try clear c37b0
                                                    try clear c38
                                                    try clear c38b0
                                                    try clear c39
                                                    try clear c39b0
                                                    try clear c39b1
                                                    try clear c41
                                                    try clear c41b0
                                                    try clear c42
                                                    try clear c42b0
                                                    try clear c43
                                                    try clear c43b0
                                                    try clear c43b1
                                                    try clear c44
                                                    try clear c45
                                                    try clear c45b0
                                                    try clear c45b1
                                                    try clear c48
                                                    try clear c48b0
                                                    try clear c49
                                                    try clear c49b0
                                                    try clear c50
                                                    try clear c50b0
                                                    try clear c50b1
                                                    try clear c52
                                                    try clear c53
                                                    try clear c53b0
                                                    try clear c53b1
                                                    try clear c55
                                                    try clear c55b0
                                                    try clear c56
                                                    try clear c56b0
                                                    try clear c57
                                                    try clear c57b0
                                                    try clear hx109_0
                                                    try clear hx110_0
                                                    try clear hx111_0
                                                    try clear hx112_0
                                                    try clear hx113_0
                                                    try clear hx114_0
                                                    try clear hx115_0
                                                    try clear hx116_0
                                                    try clear hx117_0
                                                    try clear hx118_0
                                                    try clear hx119_0
                                                    try clear hx120_0
                                                    try clear hx121_0
                                                    try clear hx122_0
                                                    try clear hx123_0
                                                    try clear hx124_0
                                                    try clear hx125_0
                                                    try clear p1
                                                    try clear p10
                                                    try clear p109
                                                    try clear p11
                                                    try clear p110
                                                    try clear p111
                                                    try clear p112
                                                    try clear p113
                                                    try clear p114
                                                    try clear p115
                                                    try clear p116
                                                    try clear p117
                                                    try clear p118
                                                    try clear p119
                                                    try clear p12
                                                    try clear p120
                                                    try clear p121
                                                    try clear p122
                                                    try clear p123
                                                    try clear p124
                                                    try clear p125
                                                    try clear p2
                                                    try clear p6
                                                    try clear q1
                                                    try clear q10
                                                    try clear q109
                                                    try clear q11
                                                    try clear q110
                                                    try clear q111
                                                    try clear q112
                                                    try clear q113
                                                    try clear q114
                                                    try clear q115
                                                    try clear q116
                                                    try clear q117
                                                    try clear q118
                                                    try clear q119
                                                    try clear q12
                                                    try clear q120
                                                    try clear q121
                                                    try clear q122
                                                    try clear q123
                                                    try clear q124
                                                    try clear q125
                                                    obtain ⟨kq, x167_53, rfl, HA, HJ53, ⟨mc53, rfl⟩⟩ := hcut
                                                    cases kq with
                                                    | zero => exact absurd HA.out (by simp [gjson_validnumber.j9])
                                                    | succ kj53 =>
                                                      have H := HA.out
                                                      clear HA
                                                      simp only [gjson_validnumber.j9] at H
                                                      by_cases c58 : x167_53 = true
                                                      · subst c58
                                                        have H1 : (some (x1_50, false)) = some (r1, r2) := by rw [if_pos rfl] at H; exact H
                                                        clear H
                                                        have H := H1
                                                        clear H1
                                                        simp only [Option.some.injEq, Prod.mk.injEq] at H
                                                        obtain ⟨rfl, rfl⟩ := H
                                                        go_wp2
                                                        go_ret2
                                                        exact ⟨by first | rfl | (simp; done) | (simp only [← hji3] <;> (first | rfl | simp)) | (simp [*]; done), by repeat (first | exact Drawn0.refl _ | apply Drawn0.step)⟩
                                                      · replace c58 := Bool.eq_false_iff.mpr c58
                                                        subst c58
                                                        have H1 : (gjson_validnumber.l2 kj53 l0 (wrap64 (x1_50 + 1))) = some (r1, r2) := by rw [if_neg (show ¬ (false = true) by decide)] at H; exact H
                                                        clear H
                                                        have H := H1
                                                        clear H1
                                                        have H' := Aside0.mk H
                                                        clear H
                                                        go_wp2
                                                        go_loopg [1] kj53 (fun kq v1 w' => ∃ (x1_8 : Int), v1 = .int .i64 x1_8 ∧ Aside0 (gjson_validnumber.l2 kq l0 x1_8 = some (r1, r2)) ∧ Aside0 (kq ≤ kj53) ∧ Drawn0 w w')
                                                        case atStart => exact ⟨(wrap64 (x1_50 + 1)), (by first | rfl | (simp; done) | (simp [*]; done)), H', ⟨Nat.le_refl _⟩, by repeat (first | exact Drawn0.refl _ | apply Drawn0.step)⟩
                                                        case round =>
                                                          clear H'
                                                          try clear c1
                                                          try clear p1
                                                          try clear q1
                                                          try clear hx1
                                                          try clear c2
                                                          try clear p2
                                                          try clear c3
                                                          try clear c4
                                                          try clear c4b0
                                                          try clear c5
                                                          try clear c5b0
                                                          try clear p6
                                                          try clear c7
                                                          try clear c7b0
                                                          try clear c7b1
                                                          try clear c8
                                                          try clear c8b0
                                                          try clear c8b1
                                                          try clear c10
                                                          try clear c10b0
                                                          try clear p10
                                                          try clear q10
                                                          try clear hx10
                                                          try clear c11
                                                          try clear c11b0
                                                          try clear p11
                                                          try clear q11
                                                          try clear hx11
                                                          try clear c12
                                                          try clear c12b0
                                                          try clear p12
                                                          try clear q12
                                                          try clear hx12
                                                          try clear c13
                                                          try clear c13b0
                                                          try clear c14
                                                          try clear c14b0
                                                          try clear c14b1
                                                          try clear c15
                                                          try clear c15b0
                                                          try clear c16
                                                          try clear c16b0
                                                          try clear c18
                                                          try clear c18b0
                                                          try clear c18b1
                                                          try clear c19
                                                          try clear c19b0
                                                          try clear c20
                                                          try clear c20b0
                                                          try clear c21
                                                          try clear c21b0
                                                          try clear c22
                                                          try clear c22b0
                                                          try clear c23
                                                          try clear c23b0
                                                          try clear c23b1
                                                          try clear c24
                                                          try clear c24b0
                                                          try clear c25
                                                          try clear c25b0
                                                          try clear c27
                                                          try clear c27b0
                                                          try clear c27b1
                                                          try clear c28
                                                          try clear c28b0
                                                          try clear c28b1
                                                          try clear c31
                                                          try clear c31b0
                                                          try clear c32
                                                          try clear c32b0
                                                          try clear c33
                                                          try clear c33b0
                                                          try clear c34
                                                          try clear c35
                                                          try clear c35b0
                                                          try clear c36
                                                          try clear c36b0
                                                          try clear c37
                                                          try clear c37b0
                                                          try clear c38
                                                          try clear c38b0
                                                          try clear c39
                                                          try clear c39b0
                                                          try clear c39b1
                                                          try clear c41
                                                          try clear c41b0
                                                          try clear c42
                                                          try clear c42b0
                                                          try clear c43
                                                          try clear c43b0
                                                          try clear c43b1
                                                          try clear c44
                                                          try clear c45
                                                          try clear c45b0
                                                          try clear c45b1
                                                          try clear c48
                                                          try clear c48b0
                                                          try clear c49
                                                          try clear c49b0
                                                          try clear c50
                                                          try clear c50b0
                                                          try clear c50b1
                                                          try clear c52
                                                          try clear c53
                                                          try clear c53b0
                                                          try clear c53b1
                                                          try clear c55
                                                          try clear c55b0
                                                          try clear c56
                                                          try clear c56b0
                                                          try clear c57
                                                          try clear c57b0
                                                          try clear c58
                                                          try clear hx109_0
                                                          try clear hx110_0
                                                          try clear hx111_0
                                                          try clear hx112_0
                                                          try clear hx113_0
                                                          try clear hx114_0
                                                          try clear hx115_0
                                                          try clear hx116_0
                                                          try clear hx117_0
                                                          try clear hx118_0
                                                          try clear hx119_0
                                                          try clear hx120_0
                                                          try clear hx121_0
                                                          try clear hx122_0
                                                          try clear hx123_0
                                                          try clear hx124_0
                                                          try clear hx125_0
                                                          try clear p1
                                                          try clear p10
                                                          try clear p109
                                                          try clear p11
                                                          try clear p110
                                                          try clear p111
                                                          try clear p112
                                                          try clear p113
                                                          try clear p114
                                                          try clear p115
                                                          try clear p116
                                                          try clear p117
                                                          try clear p118
                                                          try clear p119
                                                          try clear p12
                                                          try clear p120
                                                          try clear p121
                                                          try clear p122
                                                          try clear p123
                                                          try clear p124
                                                          try clear p125
                                                          try clear p2
                                                          try clear p6
                                                          try clear q1
                                                          try clear q10
                                                          try clear q109
                                                          try clear q11
                                                          try clear q110
                                                          try clear q111
                                                          try clear q112
                                                          try clear q113
                                                          try clear q114
                                                          try clear q115
                                                          try clear q116
                                                          try clear q117
                                                          try clear q118
                                                          try clear q119
                                                          try clear q12
                                                          try clear q120
                                                          try clear q121
                                                          try clear q122
                                                          try clear q123
                                                          try clear q124
                                                          try clear q125
                                                          obtain ⟨x1_8, rfl, HA, HK8, ⟨m8, rfl⟩⟩ := hrel
                                                          cases gk with
                                                          | zero => exact absurd HA.out (by simp [gjson_validnumber.l2])
                                                          | succ k8 =>
                                                            have H := HA.out
                                                            clear HA
                                                            simp only [gjson_validnumber.l2] at H
                                                            by_cases c59 : x1_8 < (l0.length : Int)
                                                            · rw [if_pos c59] at H
                                                              have c59b0 : decide (x1_8 < (l0.length : Int)) = true := decide_eq_true c59
                                                              clear c59
                                                              by_cases c60 : 0 ≤ x1_8
                                                              · rw [if_pos c60] at H
                                                                have c60b0 : decide (0 ≤ x1_8) = true := decide_eq_true c60
                                                                clear c60
                                                                by_cases c61 : (rd l0 x1_8) ≥ 48
                                                                · rw [if_pos c61] at H
                                                                  have c61b0 : decide (48 ≤ (rd l0 x1_8)) = true := decide_eq_true c61
                                                                  clear c61
                                                                  by_cases c62 : (rd l0 x1_8) ≤ 57
                                                                  · rw [if_pos c62] at H
                                                                    have c62b0 : decide ((rd l0 x1_8) ≤ 57) = true := decide_eq_true c62
                                                                    clear c62
                                                                    have H' := Aside0.mk H
                                                                    clear H
                                                                    have p126 : 0 ≤ (x1_8 : Int) := of_decide_eq_true (by first | (with_reducible assumption) | assumption)
                                                                    have q126 : x1_8 < (l0.length : Int) := of_decide_eq_true (by first | (with_reducible assumption) | assumption)
                                                                    obtain ⟨ad126, e126, hx126_0⟩ := Kd.at_int HR0.out x1_8 p126 q126
                                                                    obtain rfl : ad109 = ad126 := (by injection e126)
                                                                    replace p126 := eq_true p126
                                                                    replace q126 := eq_true q126
                                                                    have p127 : 0 ≤ (x1_8 : Int) := of_decide_eq_true (by first | (with_reducible assumption) | assumption)
                                                                    have q127 : x1_8 < (l0.length : Int) := of_decide_eq_true (by first | (with_reducible assumption) | assumption)
                                                                    obtain ⟨ad127, e127, hx127_0⟩ := Kd.at_int HR0.out x1_8 p127 q127
                                                                    obtain rfl : ad109 = ad127 := (by injection e127)
                                                                    replace p127 := eq_true p127
                                                                    replace q127 := eq_true q127
                                                                    go_wp2
                                                                    go_roundg k8
                                                                    case measure => have := HJ5.out; have := HJ16.out; have := HJ25.out; have := HJ39.out; have := HJ45.out; have := HJ50.out; have := HJ53.out; have := HK8.out; omega
                                                                    case rel => exact ⟨(wrap64 (x1_8 + 1)), (by first | rfl | (simp; done) | (simp [*]; done)), H', ⟨by have := HJ5.out; have := HJ16.out; have := HJ25.out; have := HJ39.out; have := HJ45.out; have := HJ50.out; have := HJ53.out; have := HK8.out; omega⟩, by repeat (first | exact Drawn0.refl _ | apply Drawn0.step)⟩
                                                                  · rw [if_neg c62] at H
                                                                    have c62b0 : decide ((rd l0 x1_8) ≤ 57) = false := decide_eq_false c62
                                                                    clear c62
                                                                    simp only [Option.some.injEq, Prod.mk.injEq] at H
                                                                    obtain ⟨rfl, rfl⟩ := H
                                                                    have p126 : 0 ≤ (x1_8 : Int) := of_decide_eq_true (by first | (with_reducible assumption) | assumption)
                                                                    have q126 : x1_8 < (l0.length : Int) := of_decide_eq_true (by first | (with_reducible assumption) | assumption)
                                                                    obtain ⟨ad126, e126, hx126_0⟩ := Kd.at_int HR0.out x1_8 p126 q126
                                                                    obtain rfl : ad109 = ad126 := (by injection e126)
                                                                    replace p126 := eq_true p126
                                                                    replace q126 := eq_true q126
                                                                    have p127 : 0 ≤ (x1_8 : Int) := of_decide_eq_true (by first | (with_reducible assumption) | assumption)
                                                                    have q127 : x1_8 < (l0.length : Int) := of_decide_eq_true (by first | (with_reducible assumption) | assumption)
                                                                    obtain ⟨ad127, e127, hx127_0⟩ := Kd.at_int HR0.out x1_8 p127 q127
                                                                    obtain rfl : ad109 = ad127 := (by injection e127)
                                                                    replace p127 := eq_true p127
                                                                    replace q127 := eq_true q127
                                                                    go_wp2
                                                                    go_ret2
                                                                    exact ⟨by first | rfl | (simp; done) | (simp only [← hji3] <;> (first | rfl | simp)) | (simp [*]; done), by repeat (first | exact Drawn0.refl _ | apply Drawn0.step)⟩
                                                                · rw [if_neg c61] at H
                                                                  have c61b0 : decide (48 ≤ (rd l0 x1_8)) = false := decide_eq_false c61
                                                                  clear c61
                                                                  simp only [Option.some.injEq, Prod.mk.injEq] at H
                                                                  obtain ⟨rfl, rfl⟩ := H
                                                                  have p126 : 0 ≤ (x1_8 : Int) := of_decide_eq_true (by first | (with_reducible assumption) | assumption)
                                                                  have q126 : x1_8 < (l0.length : Int) := of_decide_eq_true (by first | (with_reducible assumption) | assumption)
                                                                  obtain ⟨ad126, e126, hx126_0⟩ := Kd.at_int HR0.out x1_8 p126 q126
                                                                  obtain rfl : ad109 = ad126 := (by injection e126)
                                                                  replace p126 := eq_true p126
                                                                  replace q126 := eq_true q126
                                                                  go_wp2
                                                                  go_ret2
                                                                  exact ⟨by first | rfl | (simp; done) | (simp only [← hji3] <;> (first | rfl | simp)) | (simp [*]; done), by repeat (first | exact Drawn0.refl _ | apply Drawn0.step)⟩
                                                              · rw [if_neg c60] at H
                                                                exact absurd H (by simp)
                                                            · rw [if_neg c59] at H
                                                              have c59b0 : decide (x1_8 < (l0.length : Int)) = false := decide_eq_false c59
                                                              clear c59
                                                              simp only [Option.some.injEq, Prod.mk.injEq] at H
                                                              obtain ⟨rfl, rfl⟩ := H
                                                              go_wp2
                                                              go_ret2
                                                              exact ⟨by first | rfl | (simp; done) | (simp only [← hji3] <;> (first | rfl | simp)) | (simp [*]; done), by repeat (first | exact Drawn0.refl _ | apply Drawn0.step)⟩
                                    · replace c44 := Bool.eq_false_iff.mpr c44
                                      subst c44
                                      have H1 : (some (x1_25, true)) = some (r1, r2) := by rw [if_neg (show ¬ (false = true) by decide)] at H; exact H
                                      clear H
                                      have H := H1
                                      clear H1
                                      simp only [Option.some.injEq, Prod.mk.injEq] at H
                                      obtain ⟨rfl, rfl⟩ := H
                                      go_wp2
                                      go_ret2
                                      exact ⟨by first | rfl | (simp; done) | (simp only [← hji3] <;> (first | rfl | simp)) | (simp [*]; done), by repeat (first | exact Drawn0.refl _ | apply Drawn0.step)⟩
                        · rw [if_neg c25] at H
                          exact absurd H (by simp)
                      · rw [if_neg c24] at H
                        exact absurd H (by simp)
              · rw [if_neg c16] at H
                exact absurd H (by simp)
            · rw [if_neg c15] at H
              exact absurd H (by simp)
    · rw [if_neg c5] at H
      exact absurd H (by simp)
  · rw [if_neg c4] at H
    exact absurd H (by simp)
end Go.Proofs.YtldfejbmdonaoaaGreatDoor.Vs