/- Joined by a program of mine from texts of this claim: Sp3. -/
import Derived.Test.YtldfejbmdonaoaaDoorV4
import Derived.Test.YtldfejbmdonaoaaDoorV5
namespace Go.Proofs.YtldfejbmdonaoaaDoor.Sp
open Go.RowKit YtldfejbmdonaoaaDoorW.PrintWords YtldfejbmdonaoaaDoorW.PrintLast YtldfejbmdonaoaaDoorW.PrintMore
attribute [local go_sem] max2_int min2_int max_two min_two max_three min_three max_four min_four   -- for this text's walks alone
set_option linter.unusedVariables false
set_option linter.unusedSimpArgs false
mutual
def spec_reading_hex.l0 : Nat → Int → Int → ByteArray → Int → Bool → Option (Int × ByteArray × Int × Bool)
  | 0, _, _, _, _, _ => none
  | k + 1, x3, x5, x1000, x1001, x1002 => if x5 < 4 then ((spec_reading_next.f x1000 x1001 x1002).bind fun bt101 => (if (wrap64 (bt101.1)) ≥ 48 then (spec_reading_hex.j1 k x3 (wrap64 (bt101.1)) x5 (decide ((wrap64 (bt101.1)) ≤ 57)) bt101.2.1 bt101.2.2.1 bt101.2.2.2) else (spec_reading_hex.j1 k x3 (wrap64 (bt101.1)) x5 false bt101.2.1 bt101.2.2.1 bt101.2.2.2))) else (some (x3, x1000, x1001, x1002))
def spec_reading_hex.j1 : Nat → Int → Int → Int → Bool → ByteArray → Int → Bool → Option (Int × ByteArray × Int × Bool)
  | 0, _, _, _, _, _, _, _ => none
  | k + 1, x3, x4, x5, x13, x1000, x1001, x1002 => if x13 = true then (spec_reading_hex.l0 k (wrap64 ((wrap64 (x3 * 16)) + (wrap64 (x4 - 48)))) (wrap64 (x5 + 1)) x1000 (wrap64 (x1001 + 1)) x1002) else (if x4 ≥ 97 then (spec_reading_hex.j2 k x3 x4 x5 (decide (x4 ≤ 102)) x1000 x1001 x1002) else (spec_reading_hex.j2 k x3 x4 x5 false x1000 x1001 x1002))
def spec_reading_hex.j2 : Nat → Int → Int → Int → Bool → ByteArray → Int → Bool → Option (Int × ByteArray × Int × Bool)
  | 0, _, _, _, _, _, _, _ => none
  | k + 1, x3, x4, x5, x22, x1000, x1001, x1002 => if x22 = true then (spec_reading_hex.l0 k (wrap64 ((wrap64 (x3 * 16)) + (wrap64 (x4 - 87)))) (wrap64 (x5 + 1)) x1000 (wrap64 (x1001 + 1)) x1002) else (if x4 ≥ 65 then (if x4 ≤ 70 then (spec_reading_hex.l0 k (wrap64 ((wrap64 (x3 * 16)) + (wrap64 (x4 - 55)))) (wrap64 (x5 + 1)) x1000 (wrap64 (x1001 + 1)) x1002) else (some (0, x1000, x1001, true))) else (some (0, x1000, x1001, true)))
end
def spec_reading_hex.f (k : Nat) (s0_0 : ByteArray) (s0_1 : Int) (s0_2 : Bool) : Option (Int × ByteArray × Int × Bool) := spec_reading_hex.l0 k 0 0 s0_0 s0_1 s0_2
theorem spec_reading_hex.mono_l : ∀ k, (∀ y0 y1 y2 y3 y4, LeO (spec_reading_hex.l0 k y0 y1 y2 y3 y4) (spec_reading_hex.l0 (k + 1) y0 y1 y2 y3 y4)) ∧ (∀ y0 y1 y2 y3 y4 y5 y6, LeO (spec_reading_hex.j1 k y0 y1 y2 y3 y4 y5 y6) (spec_reading_hex.j1 (k + 1) y0 y1 y2 y3 y4 y5 y6)) ∧ (∀ y0 y1 y2 y3 y4 y5 y6, LeO (spec_reading_hex.j2 k y0 y1 y2 y3 y4 y5 y6) (spec_reading_hex.j2 (k + 1) y0 y1 y2 y3 y4 y5 y6))
  | 0 => ⟨fun _ _ _ _ _ r h => by simp [spec_reading_hex.l0] at h, fun _ _ _ _ _ _ _ r h => by simp [spec_reading_hex.j1] at h, fun _ _ _ _ _ _ _ r h => by simp [spec_reading_hex.j2] at h⟩
  | k + 1 => by
    obtain ⟨ih0, ih1, ih2⟩ := spec_reading_hex.mono_l k
    refine ⟨?_, ?_, ?_⟩
    · intro y0 y1 y2 y3 y4
      unfold spec_reading_hex.l0
      repeat' first
      | (with_reducible exact ih0 _ _ _ _ _) | (with_reducible exact ih1 _ _ _ _ _ _ _) | (with_reducible exact ih2 _ _ _ _ _ _ _) | (with_reducible exact LeO.refl _) | (with_reducible exact LeO.none _) | (with_reducible refine LeO.ite ?_ ?_) | (with_reducible refine LeO.bind ?_ (fun _ => ?_)) | exact ih0 _ _ _ _ _ | exact ih1 _ _ _ _ _ _ _ | exact ih2 _ _ _ _ _ _ _ | exact LeO.none _ | refine LeO.ite ?_ ?_ | refine LeO.bind ?_ (fun _ => ?_)
    · intro y0 y1 y2 y3 y4 y5 y6
      unfold spec_reading_hex.j1
      repeat' first
      | (with_reducible exact ih0 _ _ _ _ _) | (with_reducible exact ih1 _ _ _ _ _ _ _) | (with_reducible exact ih2 _ _ _ _ _ _ _) | (with_reducible exact LeO.refl _) | (with_reducible exact LeO.none _) | (with_reducible refine LeO.ite ?_ ?_) | (with_reducible refine LeO.bind ?_ (fun _ => ?_)) | exact ih0 _ _ _ _ _ | exact ih1 _ _ _ _ _ _ _ | exact ih2 _ _ _ _ _ _ _ | exact LeO.none _ | refine LeO.ite ?_ ?_ | refine LeO.bind ?_ (fun _ => ?_)
    · intro y0 y1 y2 y3 y4 y5 y6
      unfold spec_reading_hex.j2
      repeat' first
      | (with_reducible exact ih0 _ _ _ _ _) | (with_reducible exact ih1 _ _ _ _ _ _ _) | (with_reducible exact ih2 _ _ _ _ _ _ _) | (with_reducible exact LeO.refl _) | (with_reducible exact LeO.none _) | (with_reducible refine LeO.ite ?_ ?_) | (with_reducible refine LeO.bind ?_ (fun _ => ?_)) | exact ih0 _ _ _ _ _ | exact ih1 _ _ _ _ _ _ _ | exact ih2 _ _ _ _ _ _ _ | exact LeO.none _ | refine LeO.ite ?_ ?_ | refine LeO.bind ?_ (fun _ => ?_)
set_option maxHeartbeats 8000000 in
set_option maxRecDepth 100000 in
theorem spec_reading_hex.calls (k : Nat) (g : Nat) (s0_0 : ByteArray) (s0_1 : Int) (s0_2 : Bool) (r1 : Int) (r2 : ByteArray) (r3 : Int) (r4 : Bool) (w0 w : World) (hI : IsS45 w0 w g s0_0 s0_1 s0_2) (hB : Below w0.heap.size w0 w) (h : spec_reading_hex.f k s0_0 s0_1 s0_2 = some (r1, r2, r3, r4)) :
    Calls Tryd.prog 51 #[.pointer (some ⟨g, 0, none⟩)] w fun e w' => e = .returned (.int .i64 r1) ∧ IsS45 w0 w' g r2 r3 r4 ∧ Below w0.heap.size w0 w' ∧ KeepBut w w' g none := by
  have HI0 := Aside0.mk hI
  have HK := Aside0.mk (KeepBut.refl w g none)
  have HL := Aside0.mk hB.size
  clear hI
  have HW0 := Aside0.mk hB.size
  have HB := Aside0.mk hB
  clear hB
  have H : (spec_reading_hex.l0 k 0 0 s0_0 s0_1 s0_2) = some (r1, r2, r3, r4) := h
  clear h
  have H' := Aside0.mk H
  clear H
  go_enter Tryd.func51, Tryd.ntmps51
  go_wp2
  go_loopg [3, 5] k (fun kq v3 v5 w' => ∃ (x3_1 : Int) (x5_1 : Int) (x1000_1 : ByteArray) (x1001_1 : Int) (x1002_1 : Bool), v3 = .int .i64 x3_1 ∧ v5 = .int .i64 x5_1 ∧ Aside0 (spec_reading_hex.l0 kq x3_1 x5_1 x1000_1 x1001_1 x1002_1 = some (r1, r2, r3, r4)) ∧ Aside0 (kq ≤ k) ∧ Aside0 (IsS45 w0 w' g x1000_1 x1001_1 x1002_1) ∧ Aside0 (KeepBut w w' g none) ∧ Aside0 (Below w0.heap.size w0 w'))
  case atStart => exact ⟨(0), (0), (s0_0), (s0_1), (s0_2), (by first | rfl | (simp; done) | (simp [*]; done)), (by first | rfl | (simp; done) | (simp [*]; done)), H', ⟨Nat.le_refl _⟩, ⟨by repeat (first | (with_reducible first | exact HI0.out | apply IsS45.alloc | apply IsS45.drewN | apply IsS45.drew | apply IsS45.set_0 | apply IsS45.set_1 | apply IsS45.set_2) | exact HI0.out)⟩, ⟨by repeat (first | (with_reducible first | exact HK.out | apply KeepBut.set_ | apply keep_drewN | apply keep_drew | apply keep_alloc) | exact HK.out)⟩, ⟨by repeat (first | (with_reducible first | exact HB.out | apply below_alloc | apply pw_below_drewN | apply below_drew1 | refine below_set ?_ (IsS45.ge HI0.out)) | exact HB.out)⟩⟩
  case round =>
    clear H'
    obtain ⟨x3_1, x5_1, x1000_1, x1001_1, x1002_1, rfl, rfl, HA, HK1, HI0, HK, HB⟩ := hrel
    cases gk with
    | zero => exact absurd HA.out (by simp [spec_reading_hex.l0])
    | succ k1 =>
      have H := HA.out
      clear HA
      simp only [spec_reading_hex.l0] at H
      by_cases c2 : x5_1 < 4
      · rw [if_pos c2] at H
        have c2b0 : decide (x5_1 < 4) = true := decide_eq_true c2
        clear c2
        replace H := Option.bind_eq_some_iff.mp H
        obtain ⟨⟨t101, t102, t103, t104⟩, A30, H⟩ := H
        replace H : (if (wrap64 (t101)) ≥ 48 then (spec_reading_hex.j1 k1 x3_1 (wrap64 (t101)) x5_1 (decide ((wrap64 (t101)) ≤ 57)) t102 t103 t104) else (spec_reading_hex.j1 k1 x3_1 (wrap64 (t101)) x5_1 false t102 t103 t104)) = some (r1, r2, r3, r4) := H
        have A3 := Aside0.mk A30
        clear A30
        have HC4 := Aside0.mk H
        clear H
        go_upto_region 7 with (first | ((with_reducible refine gate_callee (f := 25) rfl ?_); refine goesL_ (some 8) rfl rfl Tryd.func25 (by kernel_rfl) rfl #[.pointer (some ⟨g, 0, none⟩)] rfl (by (try simp only [List.map_toArray, List.map_cons, List.map_nil]); first | done | rfl | (simp only [List.length_drop, List.length_take]; rfl)) ?_; (with_reducible refine (spec_reading_next.calls g x1000_1 x1001_1 x1002_1 t101 t102 t103 t104 w0 _ ?side1 ?side2 A3.out).mono ?_); (case side1 => repeat (first | (with_reducible first | exact HI0.out | apply IsS45.alloc | apply IsS45.drewN | apply IsS45.drew | apply IsS45.set_0 | apply IsS45.set_1 | apply IsS45.set_2) | exact HI0.out)); (case side2 => repeat (first | (with_reducible first | exact HB.out | apply below_alloc | apply pw_below_drewN | apply below_drew1 | refine below_set ?_ (IsS45.ge HI0.out)) | exact HB.out)); rintro e w5 ⟨rfl, hi, hb, hk⟩; refine ⟨_, rfl, ?_⟩; have n0_ := Aside0.mk (KeepBut.trans (by repeat (first | (with_reducible first | exact HK.out | apply KeepBut.set_ | apply keep_drewN | apply keep_drew | apply keep_alloc) | exact HK.out)) hk (.inl rfl)); have n1_ := Aside0.mk (hb); have n2_ := Aside0.mk (hi); clear HK; clear HB; clear HI0; have HK := n0_; have HB := n1_; have HI0 := n2_; clear n0_ n1_ n2_; (try clear hb); (try clear hb2); (try clear hk); (try clear hi)))
        (try simp only [Act.put, List.setIfInBounds_toArray, List.set_cons_zero, List.set_cons_succ])
        go_cut [13] (fun v13 wc => ∃ (kq : Nat) (x13_3 : Bool), v13 = .bool x13_3 ∧ Aside0 (spec_reading_hex.j1 kq x3_1 (wrap64 (t101)) x5_1 x13_3 t102 t103 t104 = some (r1, r2, r3, r4)) ∧ Aside0 (kq ≤ k1) ∧ Aside0 (IsS45 w0 wc g t102 t103 t104) ∧ Aside0 (KeepBut w wc g none) ∧ Aside0 (Below w0.heap.size w0 wc))
        case first =>
          have H := HC4.out
          clear HC4
          by_cases c6 : (wrap64 (t101)) ≥ 48
          · rw [if_pos c6] at H
            have c6b0 : decide (48 ≤ (wrap64 (t101))) = true := decide_eq_true c6
            clear c6
            (first | rw [c6b0] | (simp only [i64_w, i32_w]; rw [c6b0]) | skip)
            have H' := Aside0.mk H
            clear H
            go_wp2
            go_meet
            case rel => exact ⟨_, (decide ((wrap64 (t101)) ≤ 57)), (by first | rfl | (simp; done) | (simp [*]; done)), H', ⟨by have := HK1.out; first | omega | exact Nat.le_refl _⟩, ⟨by repeat (first | (with_reducible first | exact HI0.out | apply IsS45.alloc | apply IsS45.drewN | apply IsS45.drew | apply IsS45.set_0 | apply IsS45.set_1 | apply IsS45.set_2) | exact HI0.out)⟩, ⟨by repeat (first | (with_reducible first | exact HK.out | apply KeepBut.set_ | apply keep_drewN | apply keep_drew | apply keep_alloc) | exact HK.out)⟩, ⟨by repeat (first | (with_reducible first | exact HB.out | apply below_alloc | apply pw_below_drewN | apply below_drew1 | refine below_set ?_ (IsS45.ge HI0.out)) | exact HB.out)⟩⟩
          · rw [if_neg c6] at H
            have c6b0 : decide (48 ≤ (wrap64 (t101))) = false := decide_eq_false c6
            clear c6
            (first | rw [c6b0] | (simp only [i64_w, i32_w]; rw [c6b0]) | skip)
            have H' := Aside0.mk H
            clear H
            go_wp2
            go_meet
            case rel => exact ⟨_, (false), (by first | rfl | (simp; done) | (simp [*]; done)), H', ⟨by have := HK1.out; first | omega | exact Nat.le_refl _⟩, ⟨by repeat (first | (with_reducible first | exact HI0.out | apply IsS45.alloc | apply IsS45.drewN | apply IsS45.drew | apply IsS45.set_0 | apply IsS45.set_1 | apply IsS45.set_2) | exact HI0.out)⟩, ⟨by repeat (first | (with_reducible first | exact HK.out | apply KeepBut.set_ | apply keep_drewN | apply keep_drew | apply keep_alloc) | exact HK.out)⟩, ⟨by repeat (first | (with_reducible first | exact HB.out | apply below_alloc | apply pw_below_drewN | apply below_drew1 | refine below_set ?_ (IsS45.ge HI0.out)) | exact HB.out)⟩⟩
        case rest =>
          clear HC4
          try clear c2
          try clear c2b0
          try clear p2
          try clear c5
          try clear c6
          try clear c6b0
          try clear p6
          obtain ⟨kq, x13_3, rfl, HA, HJ3, HI0, HK, HB⟩ := hcut
          cases kq with
          | zero => exact absurd HA.out (by simp [spec_reading_hex.j1])
          | succ kj3 =>
            have H := HA.out
            clear HA
            simp only [spec_reading_hex.j1] at H
            by_cases c7 : x13_3 = true
            · subst c7
              have H1 : (spec_reading_hex.l0 kj3 (wrap64 ((wrap64 (x3_1 * 16)) + (wrap64 ((wrap64 (t101)) - 48)))) (wrap64 (x5_1 + 1)) t102 (wrap64 (t103 + 1)) t104) = some (r1, r2, r3, r4) := by rw [if_pos rfl] at H; exact H
              clear H
              have H := H1
              clear H1
              have H' := Aside0.mk H
              clear H
              obtain ⟨HGz8, hgz8⟩ := HI0.out
              have hcz8_0 := cellS45_0 HGz8
              have hcz8_1 := cellS45_1 HGz8
              have hcz8_2 := cellS45_2 HGz8
              have hfz8_0 := blk_frozen HGz8 0
              have hfz8_1 := blk_frozen HGz8 1
              have hfz8_2 := blk_frozen HGz8 2
              clear HGz8 hgz8
              go_wp2
              go_roundg kj3
              case measure => have := HK1.out; have := HJ3.out; omega
              case rel => exact ⟨(wrap64 ((wrap64 (x3_1 * 16)) + (wrap64 ((wrap64 (t101)) - 48)))), (wrap64 (x5_1 + 1)), (t102), (wrap64 (t103 + 1)), (t104), (by first | rfl | (simp; done) | (simp [*]; done)), (by first | rfl | (simp; done) | (simp [*]; done)), H', ⟨by have := HK1.out; have := HJ3.out; omega⟩, ⟨by repeat (first | (with_reducible first | exact HI0.out | apply IsS45.alloc | apply IsS45.drewN | apply IsS45.drew | apply IsS45.set_0 | apply IsS45.set_1 | apply IsS45.set_2) | exact HI0.out)⟩, ⟨by repeat (first | (with_reducible first | exact HK.out | apply KeepBut.set_ | apply keep_drewN | apply keep_drew | apply keep_alloc) | exact HK.out)⟩, ⟨by repeat (first | (with_reducible first | exact HB.out | apply below_alloc | apply pw_below_drewN | apply below_drew1 | refine below_set ?_ (IsS45.ge HI0.out)) | exact HB.out)⟩⟩
            · replace c7 := Bool.eq_false_iff.mpr c7
              subst c7
              have H1 : (if (wrap64 (t101)) ≥ 97 then (spec_reading_hex.j2 kj3 x3_1 (wrap64 (t101)) x5_1 (decide ((wrap64 (t101)) ≤ 102)) t102 t103 t104) else (spec_reading_hex.j2 kj3 x3_1 (wrap64 (t101)) x5_1 false t102 t103 t104)) = some (r1, r2, r3, r4) := by rw [if_neg (show ¬ (false = true) by decide)] at H; exact H
              clear H
              have H := H1
              clear H1
              have HC9 := Aside0.mk H
              clear H
              go_upto_region 9 with (fail)
              go_cut [22] (fun v22 wc => ∃ (kq : Nat) (x22_8 : Bool), v22 = .bool x22_8 ∧ Aside0 (spec_reading_hex.j2 kq x3_1 (wrap64 (t101)) x5_1 x22_8 t102 t103 t104 = some (r1, r2, r3, r4)) ∧ Aside0 (kq ≤ kj3) ∧ Aside0 (IsS45 w0 wc g t102 t103 t104) ∧ Aside0 (KeepBut w wc g none) ∧ Aside0 (Below w0.heap.size w0 wc))
              case first =>
                have H := HC9.out
                clear HC9
                by_cases c10 : (wrap64 (t101)) ≥ 97
                · rw [if_pos c10] at H
                  have c10b0 : decide (97 ≤ (wrap64 (t101))) = true := decide_eq_true c10
                  clear c10
                  (first | rw [c10b0] | (simp only [i64_w, i32_w]; rw [c10b0]) | skip)
                  have H' := Aside0.mk H
                  clear H
                  go_wp2
                  go_meet
                  case rel => exact ⟨_, (decide ((wrap64 (t101)) ≤ 102)), (by first | rfl | (simp; done) | (simp [*]; done)), H', ⟨by have := HK1.out; have := HJ3.out; first | omega | exact Nat.le_refl _⟩, ⟨by repeat (first | (with_reducible first | exact HI0.out | apply IsS45.alloc | apply IsS45.drewN | apply IsS45.drew | apply IsS45.set_0 | apply IsS45.set_1 | apply IsS45.set_2) | exact HI0.out)⟩, ⟨by repeat (first | (with_reducible first | exact HK.out | apply KeepBut.set_ | apply keep_drewN | apply keep_drew | apply keep_alloc) | exact HK.out)⟩, ⟨by repeat (first | (with_reducible first | exact HB.out | apply below_alloc | apply pw_below_drewN | apply below_drew1 | refine below_set ?_ (IsS45.ge HI0.out)) | exact HB.out)⟩⟩
                · rw [if_neg c10] at H
                  have c10b0 : decide (97 ≤ (wrap64 (t101))) = false := decide_eq_false c10
                  clear c10
                  (first | rw [c10b0] | (simp only [i64_w, i32_w]; rw [c10b0]) | skip)
                  have H' := Aside0.mk H
                  clear H
                  go_wp2
                  go_meet
                  case rel => exact ⟨_, (false), (by first | rfl | (simp; done) | (simp [*]; done)), H', ⟨by have := HK1.out; have := HJ3.out; first | omega | exact Nat.le_refl _⟩, ⟨by repeat (first | (with_reducible first | exact HI0.out | apply IsS45.alloc | apply IsS45.drewN | apply IsS45.drew | apply IsS45.set_0 | apply IsS45.set_1 | apply IsS45.set_2) | exact HI0.out)⟩, ⟨by repeat (first | (with_reducible first | exact HK.out | apply KeepBut.set_ | apply keep_drewN | apply keep_drew | apply keep_alloc) | exact HK.out)⟩, ⟨by repeat (first | (with_reducible first | exact HB.out | apply below_alloc | apply pw_below_drewN | apply below_drew1 | refine below_set ?_ (IsS45.ge HI0.out)) | exact HB.out)⟩⟩
              case rest =>
                clear HC9
                try clear c1
                try clear c2
                try clear c2b0
                try clear p2
                try clear c5
                try clear c6
                try clear c6b0
                try clear p6
                try clear c7
                try clear c10
                try clear c10b0
                try clear hcz8_0
                try clear hcz8_1
                try clear hcz8_2
                try clear hfz8_0
                try clear hfz8_1
                try clear hfz8_2
                try clear p2
                try clear p6
                obtain ⟨kq, x22_8, rfl, HA, HJ8, HI0, HK, HB⟩ := hcut
                cases kq with
                | zero => exact absurd HA.out (by simp [spec_reading_hex.j2])
                | succ kj8 =>
                  have H := HA.out
                  clear HA
                  simp only [spec_reading_hex.j2] at H
                  by_cases c11 : x22_8 = true
                  · subst c11
                    have H1 : (spec_reading_hex.l0 kj8 (wrap64 ((wrap64 (x3_1 * 16)) + (wrap64 ((wrap64 (t101)) - 87)))) (wrap64 (x5_1 + 1)) t102 (wrap64 (t103 + 1)) t104) = some (r1, r2, r3, r4) := by rw [if_pos rfl] at H; exact H
                    clear H
                    have H := H1
                    clear H1
                    have H' := Aside0.mk H
                    clear H
                    obtain ⟨HGz12, hgz12⟩ := HI0.out
                    have hcz12_0 := cellS45_0 HGz12
                    have hcz12_1 := cellS45_1 HGz12
                    have hcz12_2 := cellS45_2 HGz12
                    have hfz12_0 := blk_frozen HGz12 0
                    have hfz12_1 := blk_frozen HGz12 1
                    have hfz12_2 := blk_frozen HGz12 2
                    clear HGz12 hgz12
                    go_wp2
                    go_roundg kj8
                    case measure => have := HK1.out; have := HJ3.out; have := HJ8.out; omega
                    case rel => exact ⟨(wrap64 ((wrap64 (x3_1 * 16)) + (wrap64 ((wrap64 (t101)) - 87)))), (wrap64 (x5_1 + 1)), (t102), (wrap64 (t103 + 1)), (t104), (by first | rfl | (simp; done) | (simp [*]; done)), (by first | rfl | (simp; done) | (simp [*]; done)), H', ⟨by have := HK1.out; have := HJ3.out; have := HJ8.out; omega⟩, ⟨by repeat (first | (with_reducible first | exact HI0.out | apply IsS45.alloc | apply IsS45.drewN | apply IsS45.drew | apply IsS45.set_0 | apply IsS45.set_1 | apply IsS45.set_2) | exact HI0.out)⟩, ⟨by repeat (first | (with_reducible first | exact HK.out | apply KeepBut.set_ | apply keep_drewN | apply keep_drew | apply keep_alloc) | exact HK.out)⟩, ⟨by repeat (first | (with_reducible first | exact HB.out | apply below_alloc | apply pw_below_drewN | apply below_drew1 | refine below_set ?_ (IsS45.ge HI0.out)) | exact HB.out)⟩⟩
                  · replace c11 := Bool.eq_false_iff.mpr c11
                    subst c11
                    have H1 : (if (wrap64 (t101)) ≥ 65 then (if (wrap64 (t101)) ≤ 70 then (spec_reading_hex.l0 kj8 (wrap64 ((wrap64 (x3_1 * 16)) + (wrap64 ((wrap64 (t101)) - 55)))) (wrap64 (x5_1 + 1)) t102 (wrap64 (t103 + 1)) t104) else (some (0, t102, t103, true))) else (some (0, t102, t103, true))) = some (r1, r2, r3, r4) := by rw [if_neg (show ¬ (false = true) by decide)] at H; exact H
                    clear H
                    have H := H1
                    clear H1
                    by_cases c13 : (wrap64 (t101)) ≥ 65
                    · rw [if_pos c13] at H
                      have c13b0 : decide (65 ≤ (wrap64 (t101))) = true := decide_eq_true c13
                      clear c13
                      by_cases c14 : (wrap64 (t101)) ≤ 70
                      · rw [if_pos c14] at H
                        have c14b0 : decide ((wrap64 (t101)) ≤ 70) = true := decide_eq_true c14
                        clear c14
                        have H' := Aside0.mk H
                        clear H
                        obtain ⟨HGz15, hgz15⟩ := HI0.out
                        have hcz15_0 := cellS45_0 HGz15
                        have hcz15_1 := cellS45_1 HGz15
                        have hcz15_2 := cellS45_2 HGz15
                        have hfz15_0 := blk_frozen HGz15 0
                        have hfz15_1 := blk_frozen HGz15 1
                        have hfz15_2 := blk_frozen HGz15 2
                        clear HGz15 hgz15
                        go_wp2
                        go_roundg kj8
                        case measure => have := HK1.out; have := HJ3.out; have := HJ8.out; omega
                        case rel => exact ⟨(wrap64 ((wrap64 (x3_1 * 16)) + (wrap64 ((wrap64 (t101)) - 55)))), (wrap64 (x5_1 + 1)), (t102), (wrap64 (t103 + 1)), (t104), (by first | rfl | (simp; done) | (simp [*]; done)), (by first | rfl | (simp; done) | (simp [*]; done)), H', ⟨by have := HK1.out; have := HJ3.out; have := HJ8.out; omega⟩, ⟨by repeat (first | (with_reducible first | exact HI0.out | apply IsS45.alloc | apply IsS45.drewN | apply IsS45.drew | apply IsS45.set_0 | apply IsS45.set_1 | apply IsS45.set_2) | exact HI0.out)⟩, ⟨by repeat (first | (with_reducible first | exact HK.out | apply KeepBut.set_ | apply keep_drewN | apply keep_drew | apply keep_alloc) | exact HK.out)⟩, ⟨by repeat (first | (with_reducible first | exact HB.out | apply below_alloc | apply pw_below_drewN | apply below_drew1 | refine below_set ?_ (IsS45.ge HI0.out)) | exact HB.out)⟩⟩
                      · rw [if_neg c14] at H
                        have c14b0 : decide ((wrap64 (t101)) ≤ 70) = false := decide_eq_false c14
                        clear c14
                        simp only [Option.some.injEq, Prod.mk.injEq] at H
                        obtain ⟨rfl, rfl, rfl, rfl⟩ := H
                        obtain ⟨HGz16, hgz16⟩ := HI0.out
                        have hcz16_0 := cellS45_0 HGz16
                        have hcz16_1 := cellS45_1 HGz16
                        have hcz16_2 := cellS45_2 HGz16
                        have hfz16_0 := blk_frozen HGz16 0
                        have hfz16_1 := blk_frozen HGz16 1
                        have hfz16_2 := blk_frozen HGz16 2
                        clear HGz16 hgz16
                        go_wp2
                        go_ret
                        exact ⟨by first | rfl | (simp [errW_none, errW_some] <;> rfl) | (simp [*, errW_none, errW_some] <;> rfl), by repeat (first | (with_reducible first | exact HI0.out | apply IsS45.alloc | apply IsS45.drewN | apply IsS45.drew | apply IsS45.set_0 | apply IsS45.set_1 | apply IsS45.set_2) | exact HI0.out), by repeat (first | (with_reducible first | exact HB.out | apply below_alloc | apply pw_below_drewN | apply below_drew1 | refine below_set ?_ (IsS45.ge HI0.out)) | exact HB.out), by repeat (first | (with_reducible first | exact HK.out | apply KeepBut.set_ | apply keep_drewN | apply keep_drew | apply keep_alloc) | exact HK.out)⟩
                    · rw [if_neg c13] at H
                      have c13b0 : decide (65 ≤ (wrap64 (t101))) = false := decide_eq_false c13
                      clear c13
                      simp only [Option.some.injEq, Prod.mk.injEq] at H
                      obtain ⟨rfl, rfl, rfl, rfl⟩ := H
                      obtain ⟨HGz17, hgz17⟩ := HI0.out
                      have hcz17_0 := cellS45_0 HGz17
                      have hcz17_1 := cellS45_1 HGz17
                      have hcz17_2 := cellS45_2 HGz17
                      have hfz17_0 := blk_frozen HGz17 0
                      have hfz17_1 := blk_frozen HGz17 1
                      have hfz17_2 := blk_frozen HGz17 2
                      clear HGz17 hgz17
                      go_wp2
                      go_ret
                      exact ⟨by first | rfl | (simp [errW_none, errW_some] <;> rfl) | (simp [*, errW_none, errW_some] <;> rfl), by repeat (first | (with_reducible first | exact HI0.out | apply IsS45.alloc | apply IsS45.drewN | apply IsS45.drew | apply IsS45.set_0 | apply IsS45.set_1 | apply IsS45.set_2) | exact HI0.out), by repeat (first | (with_reducible first | exact HB.out | apply below_alloc | apply pw_below_drewN | apply below_drew1 | refine below_set ?_ (IsS45.ge HI0.out)) | exact HB.out), by repeat (first | (with_reducible first | exact HK.out | apply KeepBut.set_ | apply keep_drewN | apply keep_drew | apply keep_alloc) | exact HK.out)⟩
      · rw [if_neg c2] at H
        have c2b0 : decide (x5_1 < 4) = false := decide_eq_false c2
        clear c2
        simp only [Option.some.injEq, Prod.mk.injEq] at H
        obtain ⟨rfl, rfl, rfl, rfl⟩ := H
        go_wp2
        go_ret
        exact ⟨by first | rfl | (simp [errW_none, errW_some] <;> rfl) | (simp [*, errW_none, errW_some] <;> rfl), by repeat (first | (with_reducible first | exact HI0.out | apply IsS45.alloc | apply IsS45.drewN | apply IsS45.drew | apply IsS45.set_0 | apply IsS45.set_1 | apply IsS45.set_2) | exact HI0.out), by repeat (first | (with_reducible first | exact HB.out | apply below_alloc | apply pw_below_drewN | apply below_drew1 | refine below_set ?_ (IsS45.ge HI0.out)) | exact HB.out), by repeat (first | (with_reducible first | exact HK.out | apply KeepBut.set_ | apply keep_drewN | apply keep_drew | apply keep_alloc) | exact HK.out)⟩
end Go.Proofs.YtldfejbmdonaoaaDoor.Sp