/- Joined by a program of mine from texts of this claim: Vs2. -/
import Derived.Test.YtldfejbmdonaoaaGreatDoorZ25
import Derived.Test.YtldfejbmdonaoaaGreatDoorZ26
namespace Go.Proofs.YtldfejbmdonaoaaGreatDoor.Vs
open Go.RowKit YtldfejbmdonaoaaGreatDoorW.PrintWords YtldfejbmdonaoaaGreatDoorW.PrintLast YtldfejbmdonaoaaGreatDoorW.PrintMore
attribute [local go_sem] max2_int min2_int max_two min_two max_three min_three max_four min_four   -- for this text's walks alone
set_option linter.unusedVariables false
set_option linter.unusedSimpArgs false
mutual
def gjson_validstring.l0 : Nat → List Int → Int → Option (Int × Bool)
  | 0, _, _ => none
  | k + 1, x0, x1 => if x1 < (x0.length : Int) then (if 0 ≤ x1 then (if (rd x0 x1) < 32 then (some (x1, false)) else (if (rd x0 x1) = 92 then (if (wrap64 (x1 + 1)) = (x0.length : Int) then (some (wrap64 (x1 + 1), false)) else (if 0 ≤ (wrap64 (x1 + 1)) then (if (wrap64 (x1 + 1)) < (x0.length : Int) then (if (rd x0 (wrap64 (x1 + 1))) = 34 then (gjson_validstring.j1 k x0 (wrap64 (x1 + 1)) (rd x0 (wrap64 (x1 + 1))) ((rd x0 (wrap64 (x1 + 1))) == 34)) else (if (rd x0 (wrap64 (x1 + 1))) = 92 then (gjson_validstring.j1 k x0 (wrap64 (x1 + 1)) (rd x0 (wrap64 (x1 + 1))) ((rd x0 (wrap64 (x1 + 1))) == 92)) else (if (rd x0 (wrap64 (x1 + 1))) = 47 then (gjson_validstring.j1 k x0 (wrap64 (x1 + 1)) (rd x0 (wrap64 (x1 + 1))) ((rd x0 (wrap64 (x1 + 1))) == 47)) else (if (rd x0 (wrap64 (x1 + 1))) = 98 then (gjson_validstring.j1 k x0 (wrap64 (x1 + 1)) (rd x0 (wrap64 (x1 + 1))) ((rd x0 (wrap64 (x1 + 1))) == 98)) else (if (rd x0 (wrap64 (x1 + 1))) = 102 then (gjson_validstring.j1 k x0 (wrap64 (x1 + 1)) (rd x0 (wrap64 (x1 + 1))) ((rd x0 (wrap64 (x1 + 1))) == 102)) else (if (rd x0 (wrap64 (x1 + 1))) = 110 then (gjson_validstring.j1 k x0 (wrap64 (x1 + 1)) (rd x0 (wrap64 (x1 + 1))) ((rd x0 (wrap64 (x1 + 1))) == 110)) else (if (rd x0 (wrap64 (x1 + 1))) = 114 then (gjson_validstring.j1 k x0 (wrap64 (x1 + 1)) (rd x0 (wrap64 (x1 + 1))) ((rd x0 (wrap64 (x1 + 1))) == 114)) else (gjson_validstring.j1 k x0 (wrap64 (x1 + 1)) (rd x0 (wrap64 (x1 + 1))) ((rd x0 (wrap64 (x1 + 1))) == 116))))))))) else (none)) else (none))) else (if (rd x0 x1) = 34 then (some (wrap64 (x1 + 1), true)) else (gjson_validstring.l0 k x0 (wrap64 (x1 + 1)))))) else (none)) else (some (x1, false))
def gjson_validstring.j1 : Nat → List Int → Int → Int → Bool → Option (Int × Bool)
  | 0, _, _, _, _ => none
  | k + 1, x0, x1, x33, x35 => if x35 = true then (gjson_validstring.l0 k x0 (wrap64 (x1 + 1))) else (if x33 = 117 then (gjson_validstring.l1 k x0 x1 0) else (some (x1, false)))
def gjson_validstring.l1 : Nat → List Int → Int → Int → Option (Int × Bool)
  | 0, _, _, _ => none
  | k + 1, x0, x1, x46 => if x46 < 4 then (if (wrap64 (x1 + 1)) ≥ (x0.length : Int) then (some (wrap64 (x1 + 1), false)) else (if 0 ≤ (wrap64 (x1 + 1)) then (if (wrap64 (x1 + 1)) < (x0.length : Int) then ((gjson_ishex.f (rd x0 (wrap64 (x1 + 1)))).bind fun t105 => (if t105 = true then (gjson_validstring.l1 k x0 (wrap64 (x1 + 1)) (wrap64 (x46 + 1))) else (some (wrap64 (x1 + 1), false)))) else (none)) else (none))) else (gjson_validstring.l0 k x0 (wrap64 (x1 + 1)))
end
def gjson_validstring.f (k : Nat) (l0 : List Int) (a1 : Int) : Option (Int × Bool) := gjson_validstring.l0 k l0 a1
set_option maxHeartbeats 8000000 in
set_option maxRecDepth 100000 in
theorem gjson_validstring.calls (k : Nat) (A0 : Option Addr) (c0 : Nat) (l0 : List Int) (a1 : Int) (r1 : Int) (r2 : Bool) (w : World) (hr0 : Kd.C (Kd.int .u8) w A0 l0.length l0) (hc0 : l0.length ≤ c0) (h : gjson_validstring.f k l0 a1 = some (r1, r2)) :
    Calls Tryz.prog 69 #[.slice A0 l0.length c0, .int .i64 a1] w fun e w' => e = .returned (.tuple #[.int .i64 r1, .bool r2]) ∧ Drawn0 w w' := by
  have HR0 := Aside0.mk hr0
  have HC0 := Aside0.mk hc0
  clear hr0 hc0
  have H : (gjson_validstring.l0 k l0 a1) = some (r1, r2) := h
  clear h
  have H' := Aside0.mk H
  clear H
  go_enter Tryz.func69, Tryz.ntmps69
  go_wp2
  go_loopg [1] k (fun kq v1 w' => ∃ (x1_1 : Int), v1 = .int .i64 x1_1 ∧ Aside0 (gjson_validstring.l0 kq l0 x1_1 = some (r1, r2)) ∧ Aside0 (kq ≤ k) ∧ Drawn0 w w')
  case atStart => exact ⟨(a1), (by first | rfl | (simp; done) | (simp [*]; done)), H', ⟨Nat.le_refl _⟩, by repeat (first | exact Drawn0.refl _ | apply Drawn0.step)⟩
  case round =>
    clear H'
    try clear p2
    obtain ⟨x1_1, rfl, HA, HK1, ⟨m1, rfl⟩⟩ := hrel
    cases gk with
    | zero => exact absurd HA.out (by simp [gjson_validstring.l0])
    | succ k1 =>
      have H := HA.out
      clear HA
      simp only [gjson_validstring.l0] at H
      by_cases c3 : x1_1 < (l0.length : Int)
      · rw [if_pos c3] at H
        have c3b0 : decide (x1_1 < (l0.length : Int)) = true := decide_eq_true c3
        clear c3
        by_cases c4 : 0 ≤ x1_1
        · rw [if_pos c4] at H
          have c4b0 : decide (0 ≤ x1_1) = true := decide_eq_true c4
          clear c4
          by_cases c5 : (rd l0 x1_1) < 32
          · rw [if_pos c5] at H
            have c5b0 : decide ((rd l0 x1_1) < 32) = true := decide_eq_true c5
            clear c5
            simp only [Option.some.injEq, Prod.mk.injEq] at H
            obtain ⟨rfl, rfl⟩ := H
            have p101 : 0 ≤ (x1_1 : Int) := of_decide_eq_true (by first | (with_reducible assumption) | assumption)
            have q101 : x1_1 < (l0.length : Int) := of_decide_eq_true (by first | (with_reducible assumption) | assumption)
            obtain ⟨ad101, e101, hx101_0⟩ := Kd.at_int HR0.out x1_1 p101 q101
            cases e101
            replace p101 := eq_true p101
            replace q101 := eq_true q101
            go_wp2
            go_ret2
            exact ⟨by first | rfl | (simp; done) | (simp [*]; done), by repeat (first | exact Drawn0.refl _ | apply Drawn0.step)⟩
          · rw [if_neg c5] at H
            have c5b0 : decide ((rd l0 x1_1) < 32) = false := decide_eq_false c5
            clear c5
            by_cases c6 : (rd l0 x1_1) = 92
            · rw [if_pos c6] at H
              have c6b0 : ((rd l0 x1_1) == 92) = true := beq_iff_eq.mpr c6
              have c6b1 : ((rd l0 x1_1) != 92) = false := bne_eq_false_iff_eq.mpr c6
              clear c6
              by_cases c7 : (wrap64 (x1_1 + 1)) = (l0.length : Int)
              · rw [if_pos c7] at H
                have c7b0 : ((wrap64 (x1_1 + 1)) == (l0.length : Int)) = true := beq_iff_eq.mpr c7
                have c7b1 : ((wrap64 (x1_1 + 1)) != (l0.length : Int)) = false := bne_eq_false_iff_eq.mpr c7
                clear c7
                simp only [Option.some.injEq, Prod.mk.injEq] at H
                obtain ⟨rfl, rfl⟩ := H
                have p101 : 0 ≤ (x1_1 : Int) := of_decide_eq_true (by first | (with_reducible assumption) | assumption)
                have q101 : x1_1 < (l0.length : Int) := of_decide_eq_true (by first | (with_reducible assumption) | assumption)
                obtain ⟨ad101, e101, hx101_0⟩ := Kd.at_int HR0.out x1_1 p101 q101
                cases e101
                replace p101 := eq_true p101
                replace q101 := eq_true q101
                have p102 : 0 ≤ (x1_1 : Int) := of_decide_eq_true (by first | (with_reducible assumption) | assumption)
                have q102 : x1_1 < (l0.length : Int) := of_decide_eq_true (by first | (with_reducible assumption) | assumption)
                obtain ⟨ad102, e102, hx102_0⟩ := Kd.at_int HR0.out x1_1 p102 q102
                obtain rfl : ad101 = ad102 := (by injection e102)
                replace p102 := eq_true p102
                replace q102 := eq_true q102
                go_wp2
                go_ret2
                exact ⟨by first | rfl | (simp; done) | (simp [*]; done), by repeat (first | exact Drawn0.refl _ | apply Drawn0.step)⟩
              · rw [if_neg c7] at H
                have c7b0 : ((wrap64 (x1_1 + 1)) == (l0.length : Int)) = false := beq_eq_false_iff_ne.mpr c7
                have c7b1 : ((wrap64 (x1_1 + 1)) != (l0.length : Int)) = true := bne_iff_ne.mpr c7
                obtain ⟨ji8, hji8⟩ : ∃ j_ : Int, (wrap64 (x1_1 + 1)) = j_ := ⟨_, rfl⟩
                replace H : (if 0 ≤ (ji8) then (if (ji8) < (l0.length : Int) then (if (rd l0 (ji8)) = 34 then (gjson_validstring.j1 k1 l0 ji8 (rd l0 (ji8)) ((rd l0 (ji8)) == 34)) else (if (rd l0 (ji8)) = 92 then (gjson_validstring.j1 k1 l0 ji8 (rd l0 (ji8)) ((rd l0 (ji8)) == 92)) else (if (rd l0 (ji8)) = 47 then (gjson_validstring.j1 k1 l0 ji8 (rd l0 (ji8)) ((rd l0 (ji8)) == 47)) else (if (rd l0 (ji8)) = 98 then (gjson_validstring.j1 k1 l0 ji8 (rd l0 (ji8)) ((rd l0 (ji8)) == 98)) else (if (rd l0 (ji8)) = 102 then (gjson_validstring.j1 k1 l0 ji8 (rd l0 (ji8)) ((rd l0 (ji8)) == 102)) else (if (rd l0 (ji8)) = 110 then (gjson_validstring.j1 k1 l0 ji8 (rd l0 (ji8)) ((rd l0 (ji8)) == 110)) else (if (rd l0 (ji8)) = 114 then (gjson_validstring.j1 k1 l0 ji8 (rd l0 (ji8)) ((rd l0 (ji8)) == 114)) else (gjson_validstring.j1 k1 l0 ji8 (rd l0 (ji8)) ((rd l0 (ji8)) == 116))))))))) else (none)) else (none)) = some (r1, r2) := by first | (rw [hji8] at H; exact H) | (simp only [hji8] at H ⊢; exact H)
                (try rw [hji8] at c7b0)
                (try rw [hji8] at c7b1)
                have hji8w : (IntKind.i64.wrap (x1_1 + 1)) = ji8 := (i64_w _).trans hji8
                by_cases c9 : 0 ≤ (ji8)
                · rw [if_pos c9] at H
                  have c9b0 : decide (0 ≤ (ji8)) = true := decide_eq_true c9
                  clear c9
                  by_cases c10 : (ji8) < (l0.length : Int)
                  · rw [if_pos c10] at H
                    have c10b0 : decide ((ji8) < (l0.length : Int)) = true := decide_eq_true c10
                    clear c10
                    have HC11 := Aside0.mk H
                    clear H
                    have p101 : 0 ≤ (x1_1 : Int) := of_decide_eq_true (by first | (with_reducible assumption) | assumption)
                    have q101 : x1_1 < (l0.length : Int) := of_decide_eq_true (by first | (with_reducible assumption) | assumption)
                    obtain ⟨ad101, e101, hx101_0⟩ := Kd.at_int HR0.out x1_1 p101 q101
                    cases e101
                    replace p101 := eq_true p101
                    replace q101 := eq_true q101
                    have p102 : 0 ≤ (x1_1 : Int) := of_decide_eq_true (by first | (with_reducible assumption) | assumption)
                    have q102 : x1_1 < (l0.length : Int) := of_decide_eq_true (by first | (with_reducible assumption) | assumption)
                    obtain ⟨ad102, e102, hx102_0⟩ := Kd.at_int HR0.out x1_1 p102 q102
                    obtain rfl : ad101 = ad102 := (by injection e102)
                    replace p102 := eq_true p102
                    replace q102 := eq_true q102
                    have p103 : 0 ≤ ((ji8) : Int) := of_decide_eq_true (by first | (with_reducible assumption) | assumption)
                    have q103 : (ji8) < (l0.length : Int) := of_decide_eq_true (by first | (with_reducible assumption) | assumption)
                    obtain ⟨ad103, e103, hx103_0⟩ := Kd.at_int HR0.out (ji8) p103 q103
                    obtain rfl : ad101 = ad103 := (by injection e103)
                    replace p103 := eq_true p103
                    replace q103 := eq_true q103
                    go_upto_if 35 with (fail)
                    go_cut [35] (fun v35 wc => ∃ (kq : Nat) (x35_10 : Bool), v35 = .bool x35_10 ∧ Aside0 (gjson_validstring.j1 kq l0 ji8 (rd l0 (ji8)) x35_10 = some (r1, r2)) ∧ Aside0 (kq ≤ k1) ∧ Drawn0 w wc)
                    case first =>
                      have H := HC11.out
                      clear HC11
                      by_cases c12 : (rd l0 (ji8)) = 34
                      · rw [if_pos c12] at H
                        have c12b0 : ((rd l0 (ji8)) == 34) = true := beq_iff_eq.mpr c12
                        have c12b1 : ((rd l0 (ji8)) != 34) = false := bne_eq_false_iff_eq.mpr c12
                        clear c12
                        (first | rw [c12b0] | (simp only [i64_w, i32_w]; rw [c12b0]) | skip)
                        have H' := Aside0.mk H
                        clear H
                        go_wp2
                        go_meet
                        case rel => exact ⟨_, (((rd l0 (ji8)) == 34)), (by first | rfl | (simp; done) | (simp [*]; done) | (simp only [← hji8] <;> (first | rfl | simp))), H', ⟨by have := HK1.out; first | omega | exact Nat.le_refl _⟩, by repeat (first | exact Drawn0.refl _ | apply Drawn0.step)⟩
                      · rw [if_neg c12] at H
                        have c12b0 : ((rd l0 (ji8)) == 34) = false := beq_eq_false_iff_ne.mpr c12
                        have c12b1 : ((rd l0 (ji8)) != 34) = true := bne_iff_ne.mpr c12
                        (first | rw [c12b0] | (simp only [i64_w, i32_w]; rw [c12b0]) | skip)
                        by_cases c13 : (rd l0 (ji8)) = 92
                        · rw [if_pos c13] at H
                          have c13b0 : ((rd l0 (ji8)) == 92) = true := beq_iff_eq.mpr c13
                          have c13b1 : ((rd l0 (ji8)) != 92) = false := bne_eq_false_iff_eq.mpr c13
                          clear c13
                          have H' := Aside0.mk H
                          clear H
                          go_wp2
                          go_meet
                          case rel => exact ⟨_, (((rd l0 (ji8)) == 92)), (by first | rfl | (simp; done) | (simp [*]; done) | (simp only [← hji8] <;> (first | rfl | simp))), H', ⟨by have := HK1.out; first | omega | exact Nat.le_refl _⟩, by repeat (first | exact Drawn0.refl _ | apply Drawn0.step)⟩
                        · rw [if_neg c13] at H
                          have c13b0 : ((rd l0 (ji8)) == 92) = false := beq_eq_false_iff_ne.mpr c13
                          have c13b1 : ((rd l0 (ji8)) != 92) = true := bne_iff_ne.mpr c13
                          by_cases c14 : (rd l0 (ji8)) = 47
                          · rw [if_pos c14] at H
                            have c14b0 : ((rd l0 (ji8)) == 47) = true := beq_iff_eq.mpr c14
                            have c14b1 : ((rd l0 (ji8)) != 47) = false := bne_eq_false_iff_eq.mpr c14
                            clear c14
                            have H' := Aside0.mk H
                            clear H
                            go_wp2
                            go_meet
                            case rel => exact ⟨_, (((rd l0 (ji8)) == 47)), (by first | rfl | (simp; done) | (simp [*]; done) | (simp only [← hji8] <;> (first | rfl | simp))), H', ⟨by have := HK1.out; first | omega | exact Nat.le_refl _⟩, by repeat (first | exact Drawn0.refl _ | apply Drawn0.step)⟩
                          · rw [if_neg c14] at H
                            have c14b0 : ((rd l0 (ji8)) == 47) = false := beq_eq_false_iff_ne.mpr c14
                            have c14b1 : ((rd l0 (ji8)) != 47) = true := bne_iff_ne.mpr c14
                            by_cases c15 : (rd l0 (ji8)) = 98
                            · rw [if_pos c15] at H
                              have c15b0 : ((rd l0 (ji8)) == 98) = true := beq_iff_eq.mpr c15
                              have c15b1 : ((rd l0 (ji8)) != 98) = false := bne_eq_false_iff_eq.mpr c15
                              clear c15
                              have H' := Aside0.mk H
                              clear H
                              go_wp2
                              go_meet
                              case rel => exact ⟨_, (((rd l0 (ji8)) == 98)), (by first | rfl | (simp; done) | (simp [*]; done) | (simp only [← hji8] <;> (first | rfl | simp))), H', ⟨by have := HK1.out; first | omega | exact Nat.le_refl _⟩, by repeat (first | exact Drawn0.refl _ | apply Drawn0.step)⟩
                            · rw [if_neg c15] at H
                              have c15b0 : ((rd l0 (ji8)) == 98) = false := beq_eq_false_iff_ne.mpr c15
                              have c15b1 : ((rd l0 (ji8)) != 98) = true := bne_iff_ne.mpr c15
                              by_cases c16 : (rd l0 (ji8)) = 102
                              · rw [if_pos c16] at H
                                have c16b0 : ((rd l0 (ji8)) == 102) = true := beq_iff_eq.mpr c16
                                have c16b1 : ((rd l0 (ji8)) != 102) = false := bne_eq_false_iff_eq.mpr c16
                                clear c16
                                have H' := Aside0.mk H
                                clear H
                                go_wp2
                                go_meet
                                case rel => exact ⟨_, (((rd l0 (ji8)) == 102)), (by first | rfl | (simp; done) | (simp [*]; done) | (simp only [← hji8] <;> (first | rfl | simp))), H', ⟨by have := HK1.out; first | omega | exact Nat.le_refl _⟩, by repeat (first | exact Drawn0.refl _ | apply Drawn0.step)⟩
                              · rw [if_neg c16] at H
                                have c16b0 : ((rd l0 (ji8)) == 102) = false := beq_eq_false_iff_ne.mpr c16
                                have c16b1 : ((rd l0 (ji8)) != 102) = true := bne_iff_ne.mpr c16
                                by_cases c17 : (rd l0 (ji8)) = 110
                                · rw [if_pos c17] at H
                                  have c17b0 : ((rd l0 (ji8)) == 110) = true := beq_iff_eq.mpr c17
                                  have c17b1 : ((rd l0 (ji8)) != 110) = false := bne_eq_false_iff_eq.mpr c17
                                  clear c17
                                  have H' := Aside0.mk H
                                  clear H
                                  go_wp2
                                  go_meet
                                  case rel => exact ⟨_, (((rd l0 (ji8)) == 110)), (by first | rfl | (simp; done) | (simp [*]; done) | (simp only [← hji8] <;> (first | rfl | simp))), H', ⟨by have := HK1.out; first | omega | exact Nat.le_refl _⟩, by repeat (first | exact Drawn0.refl _ | apply Drawn0.step)⟩
                                · rw [if_neg c17] at H
                                  have c17b0 : ((rd l0 (ji8)) == 110) = false := beq_eq_false_iff_ne.mpr c17
                                  have c17b1 : ((rd l0 (ji8)) != 110) = true := bne_iff_ne.mpr c17
                                  by_cases c18 : (rd l0 (ji8)) = 114
                                  · rw [if_pos c18] at H
                                    have c18b0 : ((rd l0 (ji8)) == 114) = true := beq_iff_eq.mpr c18
                                    have c18b1 : ((rd l0 (ji8)) != 114) = false := bne_eq_false_iff_eq.mpr c18
                                    clear c18
                                    have H' := Aside0.mk H
                                    clear H
                                    go_wp2
                                    go_meet
                                    case rel => exact ⟨_, (((rd l0 (ji8)) == 114)), (by first | rfl | (simp; done) | (simp [*]; done) | (simp only [← hji8] <;> (first | rfl | simp))), H', ⟨by have := HK1.out; first | omega | exact Nat.le_refl _⟩, by repeat (first | exact Drawn0.refl _ | apply Drawn0.step)⟩
                                  · rw [if_neg c18] at H
                                    have c18b0 : ((rd l0 (ji8)) == 114) = false := beq_eq_false_iff_ne.mpr c18
                                    have c18b1 : ((rd l0 (ji8)) != 114) = true := bne_iff_ne.mpr c18
                                    have H' := Aside0.mk H
                                    clear H
                                    go_wp2
                                    go_meet
                                    case rel => exact ⟨_, (((rd l0 (ji8)) == 116)), (by first | rfl | (simp; done) | (simp [*]; done) | (simp only [← hji8] <;> (first | rfl | simp))), H', ⟨by have := HK1.out; first | omega | exact Nat.le_refl _⟩, by repeat (first | exact Drawn0.refl _ | apply Drawn0.step)⟩
                    case rest =>
                      clear HC11
                      try clear c1
                      try clear p1
                      try clear q1
                      try clear hx1
                      try clear p2
                      try clear c3
                      try clear c3b0
                      try clear c4
                      try clear c4b0
                      try clear c5
                      try clear c5b0
                      try clear c6
                      try clear c6b0
                      try clear c6b1
                      try clear p6
                      try clear c7
                      try clear c7b0
                      try clear c7b1
                      try clear c9
                      try clear c9b0
                      try clear c10
                      try clear c10b0
                      try clear p10
                      try clear q10
                      try clear hx10
                      try clear c12
                      try clear c12b0
                      try clear c12b1
                      try clear c13
                      try clear c13b0
                      try clear c13b1
                      try clear c14
                      try clear c14b0
                      try clear c14b1
                      try clear c15
                      try clear c15b0
                      try clear c15b1
                      try clear c16
                      try clear c16b0
                      try clear c16b1
                      try clear c17
                      try clear c17b0
                      try clear c17b1
                      try clear c18
                      try clear c18b0
                      try clear c18b1
                      try clear hx101_0
                      try clear hx102_0
                      try clear hx103_0
                      try clear p101
                      try clear p102
                      try clear p103
                      try clear p2
                      try clear q101
                      try clear q102
                      try clear q103
                      obtain ⟨kq, x35_10, rfl, HA, HJ10, ⟨mc10, rfl⟩⟩ := hcut
                      cases kq with
                      | zero => exact absurd HA.out (by simp [gjson_validstring.j1])
                      | succ kj10 =>
                        have H := HA.out
                        clear HA
                        simp only [gjson_validstring.j1] at H
                        by_cases c19 : x35_10 = true
                        · subst c19
                          have H1 : (gjson_validstring.l0 kj10 l0 (wrap64 (ji8 + 1))) = some (r1, r2) := by rw [if_pos rfl] at H; exact H
                          clear H
                          have H := H1
                          clear H1
                          have H' := Aside0.mk H
                          clear H
                          go_wp2
                          go_roundg kj10
                          case measure => have := HK1.out; have := HJ10.out; omega
                          case rel => exact ⟨(wrap64 (ji8 + 1)), (by first | rfl | (simp; done) | (simp [*]; done) | (simp only [← hji8] <;> (first | rfl | simp))), H', ⟨by have := HK1.out; have := HJ10.out; omega⟩, by repeat (first | exact Drawn0.refl _ | apply Drawn0.step)⟩
                        · replace c19 := Bool.eq_false_iff.mpr c19
                          subst c19
                          have H1 : (if (rd l0 (ji8)) = 117 then (gjson_validstring.l1 kj10 l0 ji8 0) else (some (ji8, false))) = some (r1, r2) := by rw [if_neg (show ¬ (false = true) by decide)] at H; exact H
                          clear H
                          have H := H1
                          clear H1
                          by_cases c20 : (rd l0 (ji8)) = 117
                          · rw [if_pos c20] at H
                            have c20b0 : ((rd l0 (ji8)) == 117) = true := beq_iff_eq.mpr c20
                            have c20b1 : ((rd l0 (ji8)) != 117) = false := bne_eq_false_iff_eq.mpr c20
                            clear c20
                            have H' := Aside0.mk H
                            clear H
                            go_wp2
                            go_loopg [1, 46] kj10 (fun kq v1 v46 w' => ∃ (x1_3 : Int) (x46_3 : Int), v1 = .int .i64 x1_3 ∧ v46 = .int .i64 x46_3 ∧ Aside0 (gjson_validstring.l1 kq l0 x1_3 x46_3 = some (r1, r2)) ∧ Aside0 (kq ≤ kj10) ∧ Drawn0 w w')
                            case atStart => exact ⟨(ji8), (0), (by first | rfl | (simp; done) | (simp [*]; done) | (simp only [← hji8] <;> (first | rfl | simp))), (by first | rfl | (simp; done) | (simp [*]; done)), H', ⟨Nat.le_refl _⟩, by repeat (first | exact Drawn0.refl _ | apply Drawn0.step)⟩
                            case round =>
                              clear H'
                              try clear c1
                              try clear p1
                              try clear q1
                              try clear hx1
                              try clear c2
                              try clear p2
                              try clear c3
                              try clear c3b0
                              try clear c4
                              try clear c4b0
                              try clear c5
                              try clear c5b0
                              try clear c6
                              try clear c6b0
                              try clear c6b1
                              try clear p6
                              try clear c7
                              try clear c7b0
                              try clear c7b1
                              try clear c9
                              try clear c9b0
                              try clear c10
                              try clear c10b0
                              try clear p10
                              try clear q10
                              try clear hx10
                              try clear c12
                              try clear c12b0
                              try clear c12b1
                              try clear c13
                              try clear c13b0
                              try clear c13b1
                              try clear c14
                              try clear c14b0
                              try clear c14b1
                              try clear c15
                              try clear c15b0
                              try clear c15b1
                              try clear c16
                              try clear c16b0
                              try clear c16b1
                              try clear c17
                              try clear c17b0
                              try clear c17b1
                              try clear c18
                              try clear c18b0
                              try clear c18b1
                              try clear c19
                              try clear c20
                              try clear c20b0
                              try clear c20b1
                              try clear hx101_0
                              try clear hx102_0
                              try clear hx103_0
                              try clear p1
                              try clear p10
                              try clear p101
                              try clear p102
                              try clear p103
                              try clear p2
                              try clear p6
                              try clear q1
                              try clear q10
                              try clear q101
                              try clear q102
                              try clear q103
                              obtain ⟨x1_3, x46_3, rfl, rfl, HA, HK3, ⟨m3, rfl⟩⟩ := hrel
                              cases gk with
                              | zero => exact absurd HA.out (by simp [gjson_validstring.l1])
                              | succ k3 =>
                                have H := HA.out
                                clear HA
                                simp only [gjson_validstring.l1] at H
                                by_cases c21 : x46_3 < 4
                                · rw [if_pos c21] at H
                                  have c21b0 : decide (x46_3 < 4) = true := decide_eq_true c21
                                  clear c21
                                  by_cases c22 : (wrap64 (x1_3 + 1)) ≥ (l0.length : Int)
                                  · rw [if_pos c22] at H
                                    have c22b0 : decide ((l0.length : Int) ≤ (wrap64 (x1_3 + 1))) = true := decide_eq_true c22
                                    clear c22
                                    simp only [Option.some.injEq, Prod.mk.injEq] at H
                                    obtain ⟨rfl, rfl⟩ := H
                                    go_wp2
                                    go_ret2
                                    exact ⟨by first | rfl | (simp; done) | (simp [*]; done) | (simp only [← hji8] <;> (first | rfl | simp)), by repeat (first | exact Drawn0.refl _ | apply Drawn0.step)⟩
                                  · rw [if_neg c22] at H
                                    have c22b0 : decide ((l0.length : Int) ≤ (wrap64 (x1_3 + 1))) = false := decide_eq_false c22
                                    clear c22
                                    obtain ⟨ji23, hji23⟩ : ∃ j_ : Int, (wrap64 (x1_3 + 1)) = j_ := ⟨_, rfl⟩
                                    replace H : (if 0 ≤ (ji23) then (if (ji23) < (l0.length : Int) then ((gjson_ishex.f (rd l0 (ji23))).bind fun t105 => (if t105 = true then (gjson_validstring.l1 k3 l0 ji23 (wrap64 (x46_3 + 1))) else (some (ji23, false)))) else (none)) else (none)) = some (r1, r2) := by first | (rw [hji23] at H; exact H) | (simp only [hji23] at H ⊢; exact H)
                                    (try rw [hji23] at c22b0)
                                    have hji23w : (IntKind.i64.wrap (x1_3 + 1)) = ji23 := (i64_w _).trans hji23
                                    by_cases c24 : 0 ≤ (ji23)
                                    · rw [if_pos c24] at H
                                      have c24b0 : decide (0 ≤ (ji23)) = true := decide_eq_true c24
                                      clear c24
                                      by_cases c25 : (ji23) < (l0.length : Int)
                                      · rw [if_pos c25] at H
                                        have c25b0 : decide ((ji23) < (l0.length : Int)) = true := decide_eq_true c25
                                        clear c25
                                        replace H := Option.bind_eq_some_iff.mp H
                                        obtain ⟨t105, A260, H⟩ := H
                                        replace H : (if t105 = true then (gjson_validstring.l1 k3 l0 ji23 (wrap64 (x46_3 + 1))) else (some (ji23, false))) = some (r1, r2) := H
                                        have A26 := Aside0.mk A260
                                        clear A260
                                        by_cases c27 : t105 = true
                                        · subst c27
                                          have H1 : (gjson_validstring.l1 k3 l0 ji23 (wrap64 (x46_3 + 1))) = some (r1, r2) := by rw [if_pos rfl] at H; exact H
                                          clear H
                                          have H := H1
                                          clear H1
                                          have H' := Aside0.mk H
                                          clear H
                                          have p104 : 0 ≤ ((ji23) : Int) := of_decide_eq_true (by first | (with_reducible assumption) | assumption)
                                          have q104 : (ji23) < (l0.length : Int) := of_decide_eq_true (by first | (with_reducible assumption) | assumption)
                                          obtain ⟨ad104, e104, hx104_0⟩ := Kd.at_int HR0.out (ji23) p104 q104
                                          obtain rfl : ad101 = ad104 := (by injection e104)
                                          replace p104 := eq_true p104
                                          replace q104 := eq_true q104
                                          go_wp2_with (first | (go_at_call 83; (with_reducible refine (gjson_ishex.calls (rd l0 (ji23)) true _ A26.out).mono ?_); rintro e w' ⟨rfl, ⟨nd, rfl⟩⟩))
                                          go_roundg k3
                                          case measure => have := HK1.out; have := HJ10.out; have := HK3.out; omega
                                          case rel => exact ⟨(ji23), (wrap64 (x46_3 + 1)), (by first | rfl | (simp; done) | (simp [*]; done) | (simp only [← hji23] <;> (first | rfl | simp))), (by first | rfl | (simp; done) | (simp [*]; done)), H', ⟨by have := HK1.out; have := HJ10.out; have := HK3.out; omega⟩, by repeat (first | exact Drawn0.refl _ | apply Drawn0.step)⟩
                                        · replace c27 := Bool.eq_false_iff.mpr c27
                                          subst c27
                                          have H1 : (some (ji23, false)) = some (r1, r2) := by rw [if_neg (show ¬ (false = true) by decide)] at H; exact H
                                          clear H
                                          have H := H1
                                          clear H1
                                          simp only [Option.some.injEq, Prod.mk.injEq] at H
                                          obtain ⟨rfl, rfl⟩ := H
                                          have p104 : 0 ≤ ((ji23) : Int) := of_decide_eq_true (by first | (with_reducible assumption) | assumption)
                                          have q104 : (ji23) < (l0.length : Int) := of_decide_eq_true (by first | (with_reducible assumption) | assumption)
                                          obtain ⟨ad104, e104, hx104_0⟩ := Kd.at_int HR0.out (ji23) p104 q104
                                          obtain rfl : ad101 = ad104 := (by injection e104)
                                          replace p104 := eq_true p104
                                          replace q104 := eq_true q104
                                          go_wp2_with (first | (go_at_call 83; (with_reducible refine (gjson_ishex.calls (rd l0 (ji23)) false _ A26.out).mono ?_); rintro e w' ⟨rfl, ⟨nd, rfl⟩⟩))
                                          go_ret2
                                          exact ⟨by first | rfl | (simp; done) | (simp only [← hji8, ← hji23] <;> (first | rfl | simp)) | (simp [*]; done), by repeat (first | exact Drawn0.refl _ | apply Drawn0.step)⟩
                                      · rw [if_neg c25] at H
                                        exact absurd H (by simp)
                                    · rw [if_neg c24] at H
                                      exact absurd H (by simp)
                                · rw [if_neg c21] at H
                                  have c21b0 : decide (x46_3 < 4) = false := decide_eq_false c21
                                  clear c21
                                  have H' := Aside0.mk H
                                  clear H
                                  go_wp2
                                  go_roundg k3
                                  case measure => have := HK1.out; have := HJ10.out; have := HK3.out; omega
                                  case rel => exact ⟨(wrap64 (x1_3 + 1)), (by first | rfl | (simp; done) | (simp [*]; done)), H', ⟨by have := HK1.out; have := HJ10.out; have := HK3.out; omega⟩, by repeat (first | exact Drawn0.refl _ | apply Drawn0.step)⟩
                          · rw [if_neg c20] at H
                            have c20b0 : ((rd l0 (ji8)) == 117) = false := beq_eq_false_iff_ne.mpr c20
                            have c20b1 : ((rd l0 (ji8)) != 117) = true := bne_iff_ne.mpr c20
                            simp only [Option.some.injEq, Prod.mk.injEq] at H
                            obtain ⟨rfl, rfl⟩ := H
                            go_wp2
                            go_ret2
                            exact ⟨by first | rfl | (simp; done) | (simp [*]; done) | (simp only [← hji8] <;> (first | rfl | simp)), by repeat (first | exact Drawn0.refl _ | apply Drawn0.step)⟩
                  · rw [if_neg c10] at H
                    exact absurd H (by simp)
                · rw [if_neg c9] at H
                  exact absurd H (by simp)
            · rw [if_neg c6] at H
              have c6b0 : ((rd l0 x1_1) == 92) = false := beq_eq_false_iff_ne.mpr c6
              have c6b1 : ((rd l0 x1_1) != 92) = true := bne_iff_ne.mpr c6
              by_cases c28 : (rd l0 x1_1) = 34
              · rw [if_pos c28] at H
                have c28b0 : ((rd l0 x1_1) == 34) = true := beq_iff_eq.mpr c28
                have c28b1 : ((rd l0 x1_1) != 34) = false := bne_eq_false_iff_eq.mpr c28
                clear c28
                simp only [Option.some.injEq, Prod.mk.injEq] at H
                obtain ⟨rfl, rfl⟩ := H
                have p101 : 0 ≤ (x1_1 : Int) := of_decide_eq_true (by first | (with_reducible assumption) | assumption)
                have q101 : x1_1 < (l0.length : Int) := of_decide_eq_true (by first | (with_reducible assumption) | assumption)
                obtain ⟨ad101, e101, hx101_0⟩ := Kd.at_int HR0.out x1_1 p101 q101
                cases e101
                replace p101 := eq_true p101
                replace q101 := eq_true q101
                have p102 : 0 ≤ (x1_1 : Int) := of_decide_eq_true (by first | (with_reducible assumption) | assumption)
                have q102 : x1_1 < (l0.length : Int) := of_decide_eq_true (by first | (with_reducible assumption) | assumption)
                obtain ⟨ad102, e102, hx102_0⟩ := Kd.at_int HR0.out x1_1 p102 q102
                obtain rfl : ad101 = ad102 := (by injection e102)
                replace p102 := eq_true p102
                replace q102 := eq_true q102
                have p106 : 0 ≤ (x1_1 : Int) := of_decide_eq_true (by first | (with_reducible assumption) | assumption)
                have q106 : x1_1 < (l0.length : Int) := of_decide_eq_true (by first | (with_reducible assumption) | assumption)
                obtain ⟨ad106, e106, hx106_0⟩ := Kd.at_int HR0.out x1_1 p106 q106
                obtain rfl : ad101 = ad106 := (by injection e106)
                replace p106 := eq_true p106
                replace q106 := eq_true q106
                go_wp2
                go_ret2
                exact ⟨by first | rfl | (simp; done) | (simp [*]; done), by repeat (first | exact Drawn0.refl _ | apply Drawn0.step)⟩
              · rw [if_neg c28] at H
                have c28b0 : ((rd l0 x1_1) == 34) = false := beq_eq_false_iff_ne.mpr c28
                have c28b1 : ((rd l0 x1_1) != 34) = true := bne_iff_ne.mpr c28
                have H' := Aside0.mk H
                clear H
                have p101 : 0 ≤ (x1_1 : Int) := of_decide_eq_true (by first | (with_reducible assumption) | assumption)
                have q101 : x1_1 < (l0.length : Int) := of_decide_eq_true (by first | (with_reducible assumption) | assumption)
                obtain ⟨ad101, e101, hx101_0⟩ := Kd.at_int HR0.out x1_1 p101 q101
                cases e101
                replace p101 := eq_true p101
                replace q101 := eq_true q101
                have p102 : 0 ≤ (x1_1 : Int) := of_decide_eq_true (by first | (with_reducible assumption) | assumption)
                have q102 : x1_1 < (l0.length : Int) := of_decide_eq_true (by first | (with_reducible assumption) | assumption)
                obtain ⟨ad102, e102, hx102_0⟩ := Kd.at_int HR0.out x1_1 p102 q102
                obtain rfl : ad101 = ad102 := (by injection e102)
                replace p102 := eq_true p102
                replace q102 := eq_true q102
                have p106 : 0 ≤ (x1_1 : Int) := of_decide_eq_true (by first | (with_reducible assumption) | assumption)
                have q106 : x1_1 < (l0.length : Int) := of_decide_eq_true (by first | (with_reducible assumption) | assumption)
                obtain ⟨ad106, e106, hx106_0⟩ := Kd.at_int HR0.out x1_1 p106 q106
                obtain rfl : ad101 = ad106 := (by injection e106)
                replace p106 := eq_true p106
                replace q106 := eq_true q106
                go_wp2
                go_roundg k1
                case measure => have := HK1.out; omega
                case rel => exact ⟨(wrap64 (x1_1 + 1)), (by first | rfl | (simp; done) | (simp [*]; done)), H', ⟨by have := HK1.out; omega⟩, by repeat (first | exact Drawn0.refl _ | apply Drawn0.step)⟩
        · rw [if_neg c4] at H
          exact absurd H (by simp)
      · rw [if_neg c3] at H
        have c3b0 : decide (x1_1 < (l0.length : Int)) = false := decide_eq_false c3
        clear c3
        simp only [Option.some.injEq, Prod.mk.injEq] at H
        obtain ⟨rfl, rfl⟩ := H
        go_wp2
        go_ret2
        exact ⟨by first | rfl | (simp; done) | (simp [*]; done), by repeat (first | exact Drawn0.refl _ | apply Drawn0.step)⟩
end Go.Proofs.YtldfejbmdonaoaaGreatDoor.Vs