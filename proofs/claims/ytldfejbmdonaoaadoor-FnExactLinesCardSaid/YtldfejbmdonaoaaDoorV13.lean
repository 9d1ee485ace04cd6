/- Joined by a program of mine from texts of this claim: Sp10. -/
import Derived.Test.YtldfejbmdonaoaaDoorV4
import Derived.Test.YtldfejbmdonaoaaDoorV5
namespace Go.Proofs.YtldfejbmdonaoaaDoor.Sp
open Go.RowKit YtldfejbmdonaoaaDoorW.PrintWords YtldfejbmdonaoaaDoorW.PrintLast YtldfejbmdonaoaaDoorW.PrintMore
attribute [local go_sem] max2_int min2_int max_two min_two max_three min_three max_four min_four   -- for this text's walks alone
set_option linter.unusedVariables false
set_option linter.unusedSimpArgs false
def spec_reading_blank.l0 : Nat → ByteArray → Int → Bool → Option (ByteArray × Int × Bool)
  | 0, _, _, _ => none
  | k + 1, x1000, x1001, x1002 => if x1001 < (x1000.size : Int) then (if 0 ≤ x1001 then (if (bt x1000 x1001) = 32 then (spec_reading_blank.l0 k x1000 (wrap64 (x1001 + 1)) x1002) else (if (bt x1000 x1001) = 9 then (spec_reading_blank.l0 k x1000 (wrap64 (x1001 + 1)) x1002) else (if (bt x1000 x1001) = 10 then (spec_reading_blank.l0 k x1000 (wrap64 (x1001 + 1)) x1002) else (if (bt x1000 x1001) = 13 then (spec_reading_blank.l0 k x1000 (wrap64 (x1001 + 1)) x1002) else (some (x1000, x1001, x1002)))))) else (none)) else (some (x1000, x1001, x1002))
def spec_reading_blank.f (k : Nat) (s0_0 : ByteArray) (s0_1 : Int) (s0_2 : Bool) : Option (ByteArray × Int × Bool) := spec_reading_blank.l0 k s0_0 s0_1 s0_2
set_option maxHeartbeats 8000000 in
set_option maxRecDepth 100000 in
theorem spec_reading_blank.calls (k : Nat) (g : Nat) (s0_0 : ByteArray) (s0_1 : Int) (s0_2 : Bool) (r1 : ByteArray) (r2 : Int) (r3 : Bool) (w0 w : World) (hI : IsS45 w0 w g s0_0 s0_1 s0_2) (hB : Below w0.heap.size w0 w) (h : spec_reading_blank.f k s0_0 s0_1 s0_2 = some (r1, r2, r3)) :
    Calls Tryd.prog 16 #[.pointer (some ⟨g, 0, none⟩)] w fun e w' => e = .returned (.tuple #[]) ∧ IsS45 w0 w' g r1 r2 r3 ∧ Below w0.heap.size w0 w' ∧ KeepBut w w' g none := by
  have HI0 := Aside0.mk hI
  have HK := Aside0.mk (KeepBut.refl w g none)
  have HL := Aside0.mk hB.size
  clear hI
  have HW0 := Aside0.mk hB.size
  have HB := Aside0.mk hB
  clear hB
  have H : (spec_reading_blank.l0 k s0_0 s0_1 s0_2) = some (r1, r2, r3) := h
  clear h
  have H' := Aside0.mk H
  clear H
  go_enter Tryd.func16, Tryd.ntmps16
  go_wp2
  repeat (go_quiet (fail); try go_wp2)
  go_loopg [] k (fun kq w' => ∃ (x1001_1 : Int), Aside0 (spec_reading_blank.l0 kq s0_0 x1001_1 s0_2 = some (r1, r2, r3)) ∧ Aside0 (kq ≤ k) ∧ Aside0 (IsS45 w0 w' g s0_0 x1001_1 s0_2) ∧ Aside0 (KeepBut w w' g none) ∧ Aside0 (Below w0.heap.size w0 w'))
  case atStart => exact ⟨(s0_1), H', ⟨Nat.le_refl _⟩, ⟨by repeat (first | (with_reducible first | exact HI0.out | apply IsS45.alloc | apply IsS45.drewN | apply IsS45.drew | apply IsS45.set_0 | apply IsS45.set_1 | apply IsS45.set_2) | exact HI0.out)⟩, ⟨by repeat (first | (with_reducible first | exact HK.out | apply KeepBut.set_ | apply keep_drewN | apply keep_drew | apply keep_alloc) | exact HK.out)⟩, ⟨by repeat (first | (with_reducible first | exact HB.out | apply below_alloc | apply pw_below_drewN | apply below_drew1 | refine below_set ?_ (IsS45.ge HI0.out)) | exact HB.out)⟩⟩
  case round =>
    clear H'
    try clear c1
    obtain ⟨x1001_1, HA, HK1, HI0, HK, HB⟩ := hrel
    cases gk with
    | zero => exact absurd HA.out (by simp [spec_reading_blank.l0])
    | succ k1 =>
      have H := HA.out
      clear HA
      simp only [spec_reading_blank.l0] at H
      by_cases c2 : x1001_1 < (s0_0.size : Int)
      · rw [if_pos c2] at H
        have c2b0 : decide (x1001_1 < (s0_0.size : Int)) = true := decide_eq_true c2
        clear c2
        by_cases c3 : 0 ≤ x1001_1
        · rw [if_pos c3] at H
          have c3b0 : decide (0 ≤ x1001_1) = true := decide_eq_true c3
          clear c3
          by_cases c5 : (bt s0_0 x1001_1) = 32
          · rw [if_pos c5] at H
            have c5b0 : ((bt s0_0 x1001_1) == 32) = true := beq_iff_eq.mpr c5
            have c5b1 : ((bt s0_0 x1001_1) != 32) = false := bne_eq_false_iff_eq.mpr c5
            clear c5
            have H' := Aside0.mk H
            clear H
            obtain ⟨HGz6, hgz6⟩ := HI0.out
            have hcz6_0 := cellS45_0 HGz6
            have hcz6_1 := cellS45_1 HGz6
            have hcz6_2 := cellS45_2 HGz6
            have hfz6_0 := blk_frozen HGz6 0
            have hfz6_1 := blk_frozen HGz6 1
            have hfz6_2 := blk_frozen HGz6 2
            clear HGz6 hgz6
            have p4 : 0 ≤ (x1001_1 : Int) := of_decide_eq_true (by first | (with_reducible assumption) | assumption)
            have q4 : x1001_1 < (s0_0.size : Int) := of_decide_eq_true (by first | (with_reducible assumption) | assumption)
            have hx4 := bt_at s0_0 x1001_1
            replace p4 := eq_true p4
            replace q4 := eq_true q4
            go_wp2
            repeat (go_quiet (fail); try go_wp2)
            go_roundg k1
            case measure => have := HK1.out; omega
            case rel => exact ⟨(wrap64 (x1001_1 + 1)), H', ⟨by have := HK1.out; omega⟩, ⟨by repeat (first | (with_reducible first | exact HI0.out | apply IsS45.alloc | apply IsS45.drewN | apply IsS45.drew | apply IsS45.set_0 | apply IsS45.set_1 | apply IsS45.set_2) | exact HI0.out)⟩, ⟨by repeat (first | (with_reducible first | exact HK.out | apply KeepBut.set_ | apply keep_drewN | apply keep_drew | apply keep_alloc) | exact HK.out)⟩, ⟨by repeat (first | (with_reducible first | exact HB.out | apply below_alloc | apply pw_below_drewN | apply below_drew1 | refine below_set ?_ (IsS45.ge HI0.out)) | exact HB.out)⟩⟩
          · rw [if_neg c5] at H
            have c5b0 : ((bt s0_0 x1001_1) == 32) = false := beq_eq_false_iff_ne.mpr c5
            have c5b1 : ((bt s0_0 x1001_1) != 32) = true := bne_iff_ne.mpr c5
            by_cases c8 : (bt s0_0 x1001_1) = 9
            · rw [if_pos c8] at H
              have c8b0 : ((bt s0_0 x1001_1) == 9) = true := beq_iff_eq.mpr c8
              have c8b1 : ((bt s0_0 x1001_1) != 9) = false := bne_eq_false_iff_eq.mpr c8
              clear c8
              have H' := Aside0.mk H
              clear H
              obtain ⟨HGz9, hgz9⟩ := HI0.out
              have hcz9_0 := cellS45_0 HGz9
              have hcz9_1 := cellS45_1 HGz9
              have hcz9_2 := cellS45_2 HGz9
              have hfz9_0 := blk_frozen HGz9 0
              have hfz9_1 := blk_frozen HGz9 1
              have hfz9_2 := blk_frozen HGz9 2
              clear HGz9 hgz9
              have p4 : 0 ≤ (x1001_1 : Int) := of_decide_eq_true (by first | (with_reducible assumption) | assumption)
              have q4 : x1001_1 < (s0_0.size : Int) := of_decide_eq_true (by first | (with_reducible assumption) | assumption)
              have hx4 := bt_at s0_0 x1001_1
              replace p4 := eq_true p4
              replace q4 := eq_true q4
              have p7 : 0 ≤ (x1001_1 : Int) := of_decide_eq_true (by first | (with_reducible assumption) | assumption)
              have q7 : x1001_1 < (s0_0.size : Int) := of_decide_eq_true (by first | (with_reducible assumption) | assumption)
              have hx7 := bt_at s0_0 x1001_1
              replace p7 := eq_true p7
              replace q7 := eq_true q7
              go_wp2
              repeat (go_quiet (fail); try go_wp2)
              go_roundg k1
              case measure => have := HK1.out; omega
              case rel => exact ⟨(wrap64 (x1001_1 + 1)), H', ⟨by have := HK1.out; omega⟩, ⟨by repeat (first | (with_reducible first | exact HI0.out | apply IsS45.alloc | apply IsS45.drewN | apply IsS45.drew | apply IsS45.set_0 | apply IsS45.set_1 | apply IsS45.set_2) | exact HI0.out)⟩, ⟨by repeat (first | (with_reducible first | exact HK.out | apply KeepBut.set_ | apply keep_drewN | apply keep_drew | apply keep_alloc) | exact HK.out)⟩, ⟨by repeat (first | (with_reducible first | exact HB.out | apply below_alloc | apply pw_below_drewN | apply below_drew1 | refine below_set ?_ (IsS45.ge HI0.out)) | exact HB.out)⟩⟩
            · rw [if_neg c8] at H
              have c8b0 : ((bt s0_0 x1001_1) == 9) = false := beq_eq_false_iff_ne.mpr c8
              have c8b1 : ((bt s0_0 x1001_1) != 9) = true := bne_iff_ne.mpr c8
              by_cases c11 : (bt s0_0 x1001_1) = 10
              · rw [if_pos c11] at H
                have c11b0 : ((bt s0_0 x1001_1) == 10) = true := beq_iff_eq.mpr c11
                have c11b1 : ((bt s0_0 x1001_1) != 10) = false := bne_eq_false_iff_eq.mpr c11
                clear c11
                have H' := Aside0.mk H
                clear H
                obtain ⟨HGz12, hgz12⟩ := HI0.out
                have hcz12_0 := cellS45_0 HGz12
                have hcz12_1 := cellS45_1 HGz12
                have hcz12_2 := cellS45_2 HGz12
                have hfz12_0 := blk_frozen HGz12 0
                have hfz12_1 := blk_frozen HGz12 1
                have hfz12_2 := blk_frozen HGz12 2
                clear HGz12 hgz12
                have p4 : 0 ≤ (x1001_1 : Int) := of_decide_eq_true (by first | (with_reducible assumption) | assumption)
                have q4 : x1001_1 < (s0_0.size : Int) := of_decide_eq_true (by first | (with_reducible assumption) | assumption)
                have hx4 := bt_at s0_0 x1001_1
                replace p4 := eq_true p4
                replace q4 := eq_true q4
                have p7 : 0 ≤ (x1001_1 : Int) := of_decide_eq_true (by first | (with_reducible assumption) | assumption)
                have q7 : x1001_1 < (s0_0.size : Int) := of_decide_eq_true (by first | (with_reducible assumption) | assumption)
                have hx7 := bt_at s0_0 x1001_1
                replace p7 := eq_true p7
                replace q7 := eq_true q7
                have p10 : 0 ≤ (x1001_1 : Int) := of_decide_eq_true (by first | (with_reducible assumption) | assumption)
                have q10 : x1001_1 < (s0_0.size : Int) := of_decide_eq_true (by first | (with_reducible assumption) | assumption)
                have hx10 := bt_at s0_0 x1001_1
                replace p10 := eq_true p10
                replace q10 := eq_true q10
                go_wp2
                repeat (go_quiet (fail); try go_wp2)
                go_roundg k1
                case measure => have := HK1.out; omega
                case rel => exact ⟨(wrap64 (x1001_1 + 1)), H', ⟨by have := HK1.out; omega⟩, ⟨by repeat (first | (with_reducible first | exact HI0.out | apply IsS45.alloc | apply IsS45.drewN | apply IsS45.drew | apply IsS45.set_0 | apply IsS45.set_1 | apply IsS45.set_2) | exact HI0.out)⟩, ⟨by repeat (first | (with_reducible first | exact HK.out | apply KeepBut.set_ | apply keep_drewN | apply keep_drew | apply keep_alloc) | exact HK.out)⟩, ⟨by repeat (first | (with_reducible first | exact HB.out | apply below_alloc | apply pw_below_drewN | apply below_drew1 | refine below_set ?_ (IsS45.ge HI0.out)) | exact HB.out)⟩⟩
              · rw [if_neg c11] at H
                have c11b0 : ((bt s0_0 x1001_1) == 10) = false := beq_eq_false_iff_ne.mpr c11
                have c11b1 : ((bt s0_0 x1001_1) != 10) = true := bne_iff_ne.mpr c11
                by_cases c14 : (bt s0_0 x1001_1) = 13
                · rw [if_pos c14] at H
                  have c14b0 : ((bt s0_0 x1001_1) == 13) = true := beq_iff_eq.mpr c14
                  have c14b1 : ((bt s0_0 x1001_1) != 13) = false := bne_eq_false_iff_eq.mpr c14
                  clear c14
                  have H' := Aside0.mk H
                  clear H
                  obtain ⟨HGz15, hgz15⟩ := HI0.out
                  have hcz15_0 := cellS45_0 HGz15
                  have hcz15_1 := cellS45_1 HGz15
                  have hcz15_2 := cellS45_2 HGz15
                  have hfz15_0 := blk_frozen HGz15 0
                  have hfz15_1 := blk_frozen HGz15 1
                  have hfz15_2 := blk_frozen HGz15 2
                  clear HGz15 hgz15
                  have p4 : 0 ≤ (x1001_1 : Int) := of_decide_eq_true (by first | (with_reducible assumption) | assumption)
                  have q4 : x1001_1 < (s0_0.size : Int) := of_decide_eq_true (by first | (with_reducible assumption) | assumption)
                  have hx4 := bt_at s0_0 x1001_1
                  replace p4 := eq_true p4
                  replace q4 := eq_true q4
                  have p7 : 0 ≤ (x1001_1 : Int) := of_decide_eq_true (by first | (with_reducible assumption) | assumption)
                  have q7 : x1001_1 < (s0_0.size : Int) := of_decide_eq_true (by first | (with_reducible assumption) | assumption)
                  have hx7 := bt_at s0_0 x1001_1
                  replace p7 := eq_true p7
                  replace q7 := eq_true q7
                  have p10 : 0 ≤ (x1001_1 : Int) := of_decide_eq_true (by first | (with_reducible assumption) | assumption)
                  have q10 : x1001_1 < (s0_0.size : Int) := of_decide_eq_true (by first | (with_reducible assumption) | assumption)
                  have hx10 := bt_at s0_0 x1001_1
                  replace p10 := eq_true p10
                  replace q10 := eq_true q10
                  have p13 : 0 ≤ (x1001_1 : Int) := of_decide_eq_true (by first | (with_reducible assumption) | assumption)
                  have q13 : x1001_1 < (s0_0.size : Int) := of_decide_eq_true (by first | (with_reducible assumption) | assumption)
                  have hx13 := bt_at s0_0 x1001_1
                  replace p13 := eq_true p13
                  replace q13 := eq_true q13
                  go_wp2
                  repeat (go_quiet (fail); try go_wp2)
                  go_roundg k1
                  case measure => have := HK1.out; omega
                  case rel => exact ⟨(wrap64 (x1001_1 + 1)), H', ⟨by have := HK1.out; omega⟩, ⟨by repeat (first | (with_reducible first | exact HI0.out | apply IsS45.alloc | apply IsS45.drewN | apply IsS45.drew | apply IsS45.set_0 | apply IsS45.set_1 | apply IsS45.set_2) | exact HI0.out)⟩, ⟨by repeat (first | (with_reducible first | exact HK.out | apply KeepBut.set_ | apply keep_drewN | apply keep_drew | apply keep_alloc) | exact HK.out)⟩, ⟨by repeat (first | (with_reducible first | exact HB.out | apply below_alloc | apply pw_below_drewN | apply below_drew1 | refine below_set ?_ (IsS45.ge HI0.out)) | exact HB.out)⟩⟩
                · rw [if_neg c14] at H
                  have c14b0 : ((bt s0_0 x1001_1) == 13) = false := beq_eq_false_iff_ne.mpr c14
                  have c14b1 : ((bt s0_0 x1001_1) != 13) = true := bne_iff_ne.mpr c14
                  simp only [Option.some.injEq, Prod.mk.injEq] at H
                  obtain ⟨rfl, rfl, rfl⟩ := H
                  obtain ⟨HGz16, hgz16⟩ := HI0.out
                  have hcz16_0 := cellS45_0 HGz16
                  have hcz16_1 := cellS45_1 HGz16
                  have hcz16_2 := cellS45_2 HGz16
                  have hfz16_0 := blk_frozen HGz16 0
                  have hfz16_1 := blk_frozen HGz16 1
                  have hfz16_2 := blk_frozen HGz16 2
                  clear HGz16 hgz16
                  have p4 : 0 ≤ (x1001_1 : Int) := of_decide_eq_true (by first | (with_reducible assumption) | assumption)
                  have q4 : x1001_1 < (s0_0.size : Int) := of_decide_eq_true (by first | (with_reducible assumption) | assumption)
                  have hx4 := bt_at s0_0 x1001_1
                  replace p4 := eq_true p4
                  replace q4 := eq_true q4
                  have p7 : 0 ≤ (x1001_1 : Int) := of_decide_eq_true (by first | (with_reducible assumption) | assumption)
                  have q7 : x1001_1 < (s0_0.size : Int) := of_decide_eq_true (by first | (with_reducible assumption) | assumption)
                  have hx7 := bt_at s0_0 x1001_1
                  replace p7 := eq_true p7
                  replace q7 := eq_true q7
                  have p10 : 0 ≤ (x1001_1 : Int) := of_decide_eq_true (by first | (with_reducible assumption) | assumption)
                  have q10 : x1001_1 < (s0_0.size : Int) := of_decide_eq_true (by first | (with_reducible assumption) | assumption)
                  have hx10 := bt_at s0_0 x1001_1
                  replace p10 := eq_true p10
                  replace q10 := eq_true q10
                  have p13 : 0 ≤ (x1001_1 : Int) := of_decide_eq_true (by first | (with_reducible assumption) | assumption)
                  have q13 : x1001_1 < (s0_0.size : Int) := of_decide_eq_true (by first | (with_reducible assumption) | assumption)
                  have hx13 := bt_at s0_0 x1001_1
                  replace p13 := eq_true p13
                  replace q13 := eq_true q13
                  go_wp2
                  repeat (go_quiet (fail); try go_wp2)
                  first | go_end0 | ((try simp only [Exit.inBlock, Exit.then]); refine bodyPost_ret (results_none rfl _ _ _) rfl ?_)
                  exact ⟨by first | rfl | (simp [errW_none, errW_some] <;> rfl) | (simp [*, errW_none, errW_some] <;> rfl), by repeat (first | (with_reducible first | exact HI0.out | apply IsS45.alloc | apply IsS45.drewN | apply IsS45.drew | apply IsS45.set_0 | apply IsS45.set_1 | apply IsS45.set_2) | exact HI0.out), by repeat (first | (with_reducible first | exact HB.out | apply below_alloc | apply pw_below_drewN | apply below_drew1 | refine below_set ?_ (IsS45.ge HI0.out)) | exact HB.out), by repeat (first | (with_reducible first | exact HK.out | apply KeepBut.set_ | apply keep_drewN | apply keep_drew | apply keep_alloc) | exact HK.out)⟩
        · rw [if_neg c3] at H
          exact absurd H (by simp)
      · rw [if_neg c2] at H
        have c2b0 : decide (x1001_1 < (s0_0.size : Int)) = false := decide_eq_false c2
        clear c2
        simp only [Option.some.injEq, Prod.mk.injEq] at H
        obtain ⟨rfl, rfl, rfl⟩ := H
        obtain ⟨HGz17, hgz17⟩ := HI0.out
        have hcz17_0 := cellS45_0 HGz17
        have hcz17_1 := cellS45_1 HGz17
        have hcz17_2 := cellS45_2 HGz17
        have hfz17_0 := blk_frozen HGz17 0
        have hfz17_1 := blk_frozen HGz17 1
        have hfz17_2 := blk_frozen HGz17 2
        clear HGz17 hgz17
        go_wp2
        repeat (go_quiet (fail); try go_wp2)
        first | go_end0 | ((try simp only [Exit.inBlock, Exit.then]); refine bodyPost_ret (results_none rfl _ _ _) rfl ?_)
        exact ⟨by first | rfl | (simp [errW_none, errW_some] <;> rfl) | (simp [*, errW_none, errW_some] <;> rfl), by repeat (first | (with_reducible first | exact HI0.out | apply IsS45.alloc | apply IsS45.drewN | apply IsS45.drew | apply IsS45.set_0 | apply IsS45.set_1 | apply IsS45.set_2) | exact HI0.out), by repeat (first | (with_reducible first | exact HB.out | apply below_alloc | apply pw_below_drewN | apply below_drew1 | refine below_set ?_ (IsS45.ge HI0.out)) | exact HB.out), by repeat (first | (with_reducible first | exact HK.out | apply KeepBut.set_ | apply keep_drewN | apply keep_drew | apply keep_alloc) | exact HK.out)⟩
end Go.Proofs.YtldfejbmdonaoaaDoor.Sp