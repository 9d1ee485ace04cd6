/- Joined by a program of mine from texts of this claim: Vs6. -/
import Derived.Test.YtldfejbmdonaoaaGreatDoorZ25
namespace Go.Proofs.YtldfejbmdonaoaaGreatDoor.Vs
open Go.RowKit YtldfejbmdonaoaaGreatDoorW.PrintWords YtldfejbmdonaoaaGreatDoorW.PrintLast YtldfejbmdonaoaaGreatDoorW.PrintMore
attribute [local go_sem] max2_int min2_int max_two min_two max_three min_three max_four min_four   -- for this text's walks alone
set_option linter.unusedVariables false
set_option linter.unusedSimpArgs false
def gjson_validtrue.f (l0 : List Int) (a1 : Int) : Option (Int × Bool) := if (wrap64 (a1 + 3)) ≤ (l0.length : Int) then (if 0 ≤ a1 then (if a1 < (l0.length : Int) then (if (rd l0 a1) = 114 then (if 0 ≤ (wrap64 (a1 + 1)) then (if (wrap64 (a1 + 1)) < (l0.length : Int) then (if (rd l0 (wrap64 (a1 + 1))) = 117 then (if 0 ≤ (wrap64 (a1 + 2)) then (if (wrap64 (a1 + 2)) < (l0.length : Int) then (if (rd l0 (wrap64 (a1 + 2))) = 101 then (some (wrap64 (a1 + 3), true)) else (some (a1, false))) else (none)) else (none)) else (some (a1, false))) else (none)) else (none)) else (some (a1, false))) else (none)) else (none)) else (some (a1, false))
set_option maxHeartbeats 8000000 in
set_option maxRecDepth 100000 in
theorem gjson_validtrue.calls (A0 : Option Addr) (c0 : Nat) (l0 : List Int) (a1 : Int) (r1 : Int) (r2 : Bool) (w : World) (hr0 : Kd.C (Kd.int .u8) w A0 l0.length l0) (hc0 : l0.length ≤ c0) (h : gjson_validtrue.f l0 a1 = some (r1, r2)) :
    Calls Tryz.prog 71 #[.slice A0 l0.length c0, .int .i64 a1] w fun e w' => e = .returned (.tuple #[.int .i64 r1, .bool r2]) ∧ Drawn0 w w' := by
  have HR0 := Aside0.mk hr0
  have HC0 := Aside0.mk hc0
  clear hr0 hc0
  have H : (if (wrap64 (a1 + 3)) ≤ (l0.length : Int) then (if 0 ≤ a1 then (if a1 < (l0.length : Int) then (if (rd l0 a1) = 114 then (if 0 ≤ (wrap64 (a1 + 1)) then (if (wrap64 (a1 + 1)) < (l0.length : Int) then (if (rd l0 (wrap64 (a1 + 1))) = 117 then (if 0 ≤ (wrap64 (a1 + 2)) then (if (wrap64 (a1 + 2)) < (l0.length : Int) then (if (rd l0 (wrap64 (a1 + 2))) = 101 then (some (wrap64 (a1 + 3), true)) else (some (a1, false))) else (none)) else (none)) else (some (a1, false))) else (none)) else (none)) else (some (a1, false))) else (none)) else (none)) else (some (a1, false))) = some (r1, r2) := h
  clear h
  by_cases c3 : (wrap64 (a1 + 3)) ≤ (l0.length : Int)
  · rw [if_pos c3] at H
    have c3b0 : decide ((wrap64 (a1 + 3)) ≤ (l0.length : Int)) = true := decide_eq_true c3
    clear c3
    by_cases c4 : 0 ≤ a1
    · rw [if_pos c4] at H
      have c4b0 : decide (0 ≤ a1) = true := decide_eq_true c4
      clear c4
      by_cases c5 : a1 < (l0.length : Int)
      · rw [if_pos c5] at H
        have c5b0 : decide (a1 < (l0.length : Int)) = true := decide_eq_true c5
        clear c5
        by_cases c6 : (rd l0 a1) = 114
        · rw [if_pos c6] at H
          have c6b0 : ((rd l0 a1) == 114) = true := beq_iff_eq.mpr c6
          have c6b1 : ((rd l0 a1) != 114) = false := bne_eq_false_iff_eq.mpr c6
          clear c6
          obtain ⟨ji7, hji7⟩ : ∃ j_ : Int, (wrap64 (a1 + 1)) = j_ := ⟨_, rfl⟩
          replace H : (if 0 ≤ (ji7) then (if (ji7) < (l0.length : Int) then (if (rd l0 (ji7)) = 117 then (if 0 ≤ (wrap64 (a1 + 2)) then (if (wrap64 (a1 + 2)) < (l0.length : Int) then (if (rd l0 (wrap64 (a1 + 2))) = 101 then (some (wrap64 (a1 + 3), true)) else (some (a1, false))) else (none)) else (none)) else (some (a1, false))) else (none)) else (none)) = some (r1, r2) := by first | (rw [hji7] at H; exact H) | (simp only [hji7] at H ⊢; exact H)
          have hji7w : (IntKind.i64.wrap (a1 + 1)) = ji7 := (i64_w _).trans hji7
          by_cases c8 : 0 ≤ (ji7)
          · rw [if_pos c8] at H
            have c8b0 : decide (0 ≤ (ji7)) = true := decide_eq_true c8
            clear c8
            by_cases c9 : (ji7) < (l0.length : Int)
            · rw [if_pos c9] at H
              have c9b0 : decide ((ji7) < (l0.length : Int)) = true := decide_eq_true c9
              clear c9
              by_cases c10 : (rd l0 (ji7)) = 117
              · rw [if_pos c10] at H
                have c10b0 : ((rd l0 (ji7)) == 117) = true := beq_iff_eq.mpr c10
                have c10b1 : ((rd l0 (ji7)) != 117) = false := bne_eq_false_iff_eq.mpr c10
                clear c10
                obtain ⟨ji11, hji11⟩ : ∃ j_ : Int, (wrap64 (a1 + 2)) = j_ := ⟨_, rfl⟩
                replace H : (if 0 ≤ (ji11) then (if (ji11) < (l0.length : Int) then (if (rd l0 (ji11)) = 101 then (some (wrap64 (a1 + 3), true)) else (some (a1, false))) else (none)) else (none)) = some (r1, r2) := by first | (rw [hji11] at H; exact H) | (simp only [hji11] at H ⊢; exact H)
                have hji11w : (IntKind.i64.wrap (a1 + 2)) = ji11 := (i64_w _).trans hji11
                by_cases c12 : 0 ≤ (ji11)
                · rw [if_pos c12] at H
                  have c12b0 : decide (0 ≤ (ji11)) = true := decide_eq_true c12
                  clear c12
                  by_cases c13 : (ji11) < (l0.length : Int)
                  · rw [if_pos c13] at H
                    have c13b0 : decide ((ji11) < (l0.length : Int)) = true := decide_eq_true c13
                    clear c13
                    by_cases c14 : (rd l0 (ji11)) = 101
                    · rw [if_pos c14] at H
                      have c14b0 : ((rd l0 (ji11)) == 101) = true := beq_iff_eq.mpr c14
                      have c14b1 : ((rd l0 (ji11)) != 101) = false := bne_eq_false_iff_eq.mpr c14
                      clear c14
                      simp only [Option.some.injEq, Prod.mk.injEq] at H
                      obtain ⟨rfl, rfl⟩ := H
                      have p128 : 0 ≤ (a1 : Int) := of_decide_eq_true (by first | (with_reducible assumption) | assumption)
                      have q128 : a1 < (l0.length : Int) := of_decide_eq_true (by first | (with_reducible assumption) | assumption)
                      obtain ⟨ad128, e128, hx128_0⟩ := Kd.at_int HR0.out a1 p128 q128
                      cases e128
                      replace p128 := eq_true p128
                      replace q128 := eq_true q128
                      have p129 : 0 ≤ ((ji7) : Int) := of_decide_eq_true (by first | (with_reducible assumption) | assumption)
                      have q129 : (ji7) < (l0.length : Int) := of_decide_eq_true (by first | (with_reducible assumption) | assumption)
                      obtain ⟨ad129, e129, hx129_0⟩ := Kd.at_int HR0.out (ji7) p129 q129
                      obtain rfl : ad128 = ad129 := (by injection e129)
                      replace p129 := eq_true p129
                      replace q129 := eq_true q129
                      have p130 : 0 ≤ ((ji11) : Int) := of_decide_eq_true (by first | (with_reducible assumption) | assumption)
                      have q130 : (ji11) < (l0.length : Int) := of_decide_eq_true (by first | (with_reducible assumption) | assumption)
                      obtain ⟨ad130, e130, hx130_0⟩ := Kd.at_int HR0.out (ji11) p130 q130
                      obtain rfl : ad128 = ad130 := (by injection e130)
                      replace p130 := eq_true p130
                      replace q130 := eq_true q130
                      go_enter Tryz.func71, Tryz.ntmps71
                      go_wp2
                      go_ret2
                      exact ⟨by first | rfl | (simp; done) | (simp only [← hji7, ← hji11] <;> (first | rfl | simp)) | (simp [*]; done), by repeat (first | exact Drawn0.refl _ | apply Drawn0.step)⟩
                    · rw [if_neg c14] at H
                      have c14b0 : ((rd l0 (ji11)) == 101) = false := beq_eq_false_iff_ne.mpr c14
                      have c14b1 : ((rd l0 (ji11)) != 101) = true := bne_iff_ne.mpr c14
                      simp only [Option.some.injEq, Prod.mk.injEq] at H
                      obtain ⟨rfl, rfl⟩ := H
                      have p128 : 0 ≤ (a1 : Int) := of_decide_eq_true (by first | (with_reducible assumption) | assumption)
                      have q128 : a1 < (l0.length : Int) := of_decide_eq_true (by first | (with_reducible assumption) | assumption)
                      obtain ⟨ad128, e128, hx128_0⟩ := Kd.at_int HR0.out a1 p128 q128
                      cases e128
                      replace p128 := eq_true p128
                      replace q128 := eq_true q128
                      have p129 : 0 ≤ ((ji7) : Int) := of_decide_eq_true (by first | (with_reducible assumption) | assumption)
                      have q129 : (ji7) < (l0.length : Int) := of_decide_eq_true (by first | (with_reducible assumption) | assumption)
                      obtain ⟨ad129, e129, hx129_0⟩ := Kd.at_int HR0.out (ji7) p129 q129
                      obtain rfl : ad128 = ad129 := (by injection e129)
                      replace p129 := eq_true p129
                      replace q129 := eq_true q129
                      have p130 : 0 ≤ ((ji11) : Int) := of_decide_eq_true (by first | (with_reducible assumption) | assumption)
                      have q130 : (ji11) < (l0.length : Int) := of_decide_eq_true (by first | (with_reducible assumption) | assumption)
                      obtain ⟨ad130, e130, hx130_0⟩ := Kd.at_int HR0.out (ji11) p130 q130
                      obtain rfl : ad128 = ad130 := (by injection e130)
                      replace p130 := eq_true p130
                      replace q130 := eq_true q130
                      go_enter Tryz.func71, Tryz.ntmps71
                      go_wp2
                      go_ret2
                      exact ⟨by first | rfl | (simp; done) | (simp only [← hji7, ← hji11] <;> (first | rfl | simp)) | (simp [*]; done), by repeat (first | exact Drawn0.refl _ | apply Drawn0.step)⟩
                  · rw [if_neg c13] at H
                    exact absurd H (by simp)
                · rw [if_neg c12] at H
                  exact absurd H (by simp)
              · rw [if_neg c10] at H
                have c10b0 : ((rd l0 (ji7)) == 117) = false := beq_eq_false_iff_ne.mpr c10
                have c10b1 : ((rd l0 (ji7)) != 117) = true := bne_iff_ne.mpr c10
                simp only [Option.some.injEq, Prod.mk.injEq] at H
                obtain ⟨rfl, rfl⟩ := H
                have p128 : 0 ≤ (a1 : Int) := of_decide_eq_true (by first | (with_reducible assumption) | assumption)
                have q128 : a1 < (l0.length : Int) := of_decide_eq_true (by first | (with_reducible assumption) | assumption)
                obtain ⟨ad128, e128, hx128_0⟩ := Kd.at_int HR0.out a1 p128 q128
                cases e128
                replace p128 := eq_true p128
                replace q128 := eq_true q128
                have p129 : 0 ≤ ((ji7) : Int) := of_decide_eq_true (by first | (with_reducible assumption) | assumption)
                have q129 : (ji7) < (l0.length : Int) := of_decide_eq_true (by first | (with_reducible assumption) | assumption)
                obtain ⟨ad129, e129, hx129_0⟩ := Kd.at_int HR0.out (ji7) p129 q129
                obtain rfl : ad128 = ad129 := (by injection e129)
                replace p129 := eq_true p129
                replace q129 := eq_true q129
                go_enter Tryz.func71, Tryz.ntmps71
                go_wp2
                go_ret2
                exact ⟨by first | rfl | (simp; done) | (simp only [← hji7] <;> (first | rfl | simp)) | (simp [*]; done), by repeat (first | exact Drawn0.refl _ | apply Drawn0.step)⟩
            · rw [if_neg c9] at H
              exact absurd H (by simp)
          · rw [if_neg c8] at H
            exact absurd H (by simp)
        · rw [if_neg c6] at H
          have c6b0 : ((rd l0 a1) == 114) = false := beq_eq_false_iff_ne.mpr c6
          have c6b1 : ((rd l0 a1) != 114) = true := bne_iff_ne.mpr c6
          simp only [Option.some.injEq, Prod.mk.injEq] at H
          obtain ⟨rfl, rfl⟩ := H
          have p128 : 0 ≤ (a1 : Int) := of_decide_eq_true (by first | (with_reducible assumption) | assumption)
          have q128 : a1 < (l0.length : Int) := of_decide_eq_true (by first | (with_reducible assumption) | assumption)
          obtain ⟨ad128, e128, hx128_0⟩ := Kd.at_int HR0.out a1 p128 q128
          cases e128
          replace p128 := eq_true p128
          replace q128 := eq_true q128
          go_enter Tryz.func71, Tryz.ntmps71
          go_wp2
          go_ret2
          exact ⟨by first | rfl | (simp; done) | (simp [*]; done), by repeat (first | exact Drawn0.refl _ | apply Drawn0.step)⟩
      · rw [if_neg c5] at H
        exact absurd H (by simp)
    · rw [if_neg c4] at H
      exact absurd H (by simp)
  · rw [if_neg c3] at H
    have c3b0 : decide ((wrap64 (a1 + 3)) ≤ (l0.length : Int)) = false := decide_eq_false c3
    clear c3
    simp only [Option.some.injEq, Prod.mk.injEq] at H
    obtain ⟨rfl, rfl⟩ := H
    go_enter Tryz.func71, Tryz.ntmps71
    go_wp2
    go_ret2
    exact ⟨by first | rfl | (simp; done) | (simp [*]; done), by repeat (first | exact Drawn0.refl _ | apply Drawn0.step)⟩
end Go.Proofs.YtldfejbmdonaoaaGreatDoor.Vs