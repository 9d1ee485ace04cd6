/- Joined by a program of mine from texts of this claim: Sp5. -/
import Derived.Test.YtldfejbmdonaoaaDoorV4
import Derived.Test.YtldfejbmdonaoaaDoorV5
import Derived.Test.YtldfejbmdonaoaaDoorV6
import Derived.Test.YtldfejbmdonaoaaDoorV7
import Derived.Lib.SlBytesConst
namespace Go.Proofs.YtldfejbmdonaoaaDoor.Sp
open Go.RowKit YtldfejbmdonaoaaDoorW.PrintWords YtldfejbmdonaoaaDoorW.PrintLast YtldfejbmdonaoaaDoorW.PrintMore
attribute [local go_sem] max2_int min2_int max_two min_two max_three min_three max_four min_four   -- for this text's walks alone
set_option linter.unusedVariables false
set_option linter.unusedSimpArgs false
mutual
def spec_reading_escape.j1 : Nat → Int → Bool → ByteArray → Int → Bool → Option (ByteArray × Bool × ByteArray × Int × Bool)
  | 0, _, _, _, _, _ => none
  | k + 1, x7, x59, x1000, x1001, x1002 => if x59 = true then ((spec_Rune.f x7).bind fun t129 => (some (t129, true, x1000, x1001, x1002))) else (if x7 ≥ 56320 then (spec_reading_escape.j2 k x7 true x1000 x1001 x1002) else (if (wrap64 (x1001 + 1)) ≥ (x1000.size : Int) then (spec_reading_escape.j2 k x7 true x1000 x1001 x1002) else (if 0 ≤ x1001 then (if x1001 < (x1000.size : Int) then (if (bt x1000 x1001) = 92 then (if 0 ≤ (wrap64 (x1001 + 1)) then (if (wrap64 (x1001 + 1)) < (x1000.size : Int) then (spec_reading_escape.j2 k x7 ((bt x1000 (wrap64 (x1001 + 1))) != 117) x1000 x1001 x1002) else (none)) else (none)) else (spec_reading_escape.j2 k x7 true x1000 x1001 x1002)) else (none)) else (none))))
def spec_reading_escape.j2 : Nat → Int → Bool → ByteArray → Int → Bool → Option (ByteArray × Bool × ByteArray × Int × Bool)
  | 0, _, _, _, _, _ => none
  | k + 1, x7, x101, x1000, x1001, x1002 => if x101 = true then (some ((⟨#[]⟩ : ByteArray), false, x1000, x1001, x1002)) else ((spec_reading_hex.f k x1000 (wrap64 (x1001 + 2)) x1002).bind fun bt130 => (if bt130.1 < 56320 then (some ((⟨#[]⟩ : ByteArray), false, bt130.2.1, bt130.2.2.1, bt130.2.2.2)) else (if bt130.1 > 57343 then (some ((⟨#[]⟩ : ByteArray), false, bt130.2.1, bt130.2.2.1, bt130.2.2.2)) else ((spec_Rune.f (wrap64 ((wrap64 ((wrap64 (65536 + (wrap64 ((wrap64 (x7 - 55296)) * 1024)))) + bt130.1)) - 56320))).bind fun t134 => (some (t134, true, bt130.2.1, bt130.2.2.1, bt130.2.2.2))))))
def spec_reading_escape.l0 : Nat → Int → List Int → Int → Int → ByteArray → Int → Bool → Option (ByteArray × Bool × ByteArray × Int × Bool)
  | 0, _, _, _, _, _, _, _ => none
  | k + 1, x4, x14, x15, x16, x1000, x1001, x1002 => if x16 < x15 then (if 0 ≤ x16 then (if x16 < (x14.length : Int) then (if x4 = (rd x14 x16) then (if x16 ≤ (wrap64 (x16 + 1)) then (if (wrap64 (x16 + 1)) ≤ 8 then (some ((⟨#[34, 92, 47, 8, 12, 10, 13, 9]⟩ : ByteArray).extract (x16 : Int).toNat ((wrap64 (x16 + 1)) : Int).toNat, true, x1000, wrap64 (x1001 + 1), x1002)) else (none)) else (none)) else (spec_reading_escape.l0 k x4 x14 x15 (wrap64 (x16 + 1)) x1000 x1001 x1002)) else (none)) else (none)) else (some ((⟨#[]⟩ : ByteArray), false, x1000, x1001, true))
end
def spec_reading_escape.f (k : Nat) (s0_0 : ByteArray) (s0_1 : Int) (s0_2 : Bool) : Option (ByteArray × Bool × ByteArray × Int × Bool) := (spec_reading_next.f s0_0 s0_1 s0_2).bind fun bt117 => (if bt117.1 = 117 then ((spec_reading_hex.f k bt117.2.1 (wrap64 (bt117.2.2.1 + 1)) bt117.2.2.2).bind fun bt125 => (if bt125.1 < 55296 then (spec_reading_escape.j1 k bt125.1 true bt125.2.1 bt125.2.2.1 bt125.2.2.2) else (if bt125.1 > 57343 then (spec_reading_escape.j1 k bt125.1 true bt125.2.1 bt125.2.2.1 bt125.2.2.2) else (spec_reading_escape.j1 k bt125.1 bt125.2.2.2 bt125.2.1 bt125.2.2.1 bt125.2.2.2)))) else ((some (([34, 92, 47, 98, 102, 110, 114, 116] : List Int) : List Int)).bind fun y121 => (spec_reading_escape.l0 k bt117.1 y121 (y121.length : Int) 0 bt117.2.1 bt117.2.2.1 bt117.2.2.2)))
set_option maxHeartbeats 8000000 in
set_option maxRecDepth 100000 in
theorem spec_reading_escape.calls (k : Nat) (g : Nat) (s0_0 : ByteArray) (s0_1 : Int) (s0_2 : Bool) (r1 : ByteArray) (r2 : Bool) (r3 : ByteArray) (r4 : Int) (r5 : Bool) (w0 w : World) (hI : IsS45 w0 w g s0_0 s0_1 s0_2) (hB : Below w0.heap.size w0 w) (h : spec_reading_escape.f k s0_0 s0_1 s0_2 = some (r1, r2, r3, r4, r5)) :
    Calls Tryd.prog 42 #[.pointer (some ⟨g, 0, none⟩)] w fun e w' => e = .returned (.tuple #[.string r1, .bool r2]) ∧ IsS45 w0 w' g r3 r4 r5 ∧ Below w0.heap.size w0 w' ∧ KeepBut w w' g none := by
  have HI0 := Aside0.mk hI
  have HK := Aside0.mk (KeepBut.refl w g none)
  have HL := Aside0.mk hB.size
  clear hI
  have HW0 := Aside0.mk hB.size
  have HB := Aside0.mk hB
  clear hB
  have H : ((spec_reading_next.f s0_0 s0_1 s0_2).bind fun bt117 => (if bt117.1 = 117 then ((spec_reading_hex.f k bt117.2.1 (wrap64 (bt117.2.2.1 + 1)) bt117.2.2.2).bind fun bt125 => (if bt125.1 < 55296 then (spec_reading_escape.j1 k bt125.1 true bt125.2.1 bt125.2.2.1 bt125.2.2.2) else (if bt125.1 > 57343 then (spec_reading_escape.j1 k bt125.1 true bt125.2.1 bt125.2.2.1 bt125.2.2.2) else (spec_reading_escape.j1 k bt125.1 bt125.2.2.2 bt125.2.1 bt125.2.2.1 bt125.2.2.2)))) else ((some (([34, 92, 47, 98, 102, 110, 114, 116] : List Int) : List Int)).bind fun y121 => (spec_reading_escape.l0 k bt117.1 y121 (y121.length : Int) 0 bt117.2.1 bt117.2.2.1 bt117.2.2.2)))) = some (r1, r2, r3, r4, r5) := h
  clear h
  replace H := Option.bind_eq_some_iff.mp H
  obtain ⟨⟨t117, t118, t119, t120⟩, A20, H⟩ := H
  replace H : (if t117 = 117 then ((spec_reading_hex.f k t118 (wrap64 (t119 + 1)) t120).bind fun bt125 => (if bt125.1 < 55296 then (spec_reading_escape.j1 k bt125.1 true bt125.2.1 bt125.2.2.1 bt125.2.2.2) else (if bt125.1 > 57343 then (spec_reading_escape.j1 k bt125.1 true bt125.2.1 bt125.2.2.1 bt125.2.2.2) else (spec_reading_escape.j1 k bt125.1 bt125.2.2.2 bt125.2.1 bt125.2.2.1 bt125.2.2.2)))) else ((some (([34, 92, 47, 98, 102, 110, 114, 116] : List Int) : List Int)).bind fun y121 => (spec_reading_escape.l0 k t117 y121 (y121.length : Int) 0 t118 t119 t120))) = some (r1, r2, r3, r4, r5) := H
  have A2 := Aside0.mk A20
  clear A20
  by_cases c3 : t117 = 117
  · rw [if_pos c3] at H
    have c3b0 : (t117 == 117) = true := beq_iff_eq.mpr c3
    have c3b1 : (t117 != 117) = false := bne_eq_false_iff_eq.mpr c3
    clear c3
    replace H := Option.bind_eq_some_iff.mp H
    obtain ⟨⟨t125, t126, t127, t128⟩, A40, H⟩ := H
    replace H : (if t125 < 55296 then (spec_reading_escape.j1 k t125 true t126 t127 t128) else (if t125 > 57343 then (spec_reading_escape.j1 k t125 true t126 t127 t128) else (spec_reading_escape.j1 k t125 t128 t126 t127 t128))) = some (r1, r2, r3, r4, r5) := H
    have A4 := Aside0.mk A40
    clear A40
    have HC5 := Aside0.mk H
    clear H
    go_enter Tryd.func42, Tryd.ntmps42
    go_upto_region 14 with (first | (go_at_call 25; (with_reducible refine (spec_reading_next.calls g s0_0 s0_1 s0_2 t117 t118 t119 t120 w0 _ ?side1 ?side2 A2.out).mono ?_); (case side1 => repeat (first | (with_reducible first | exact HI0.out | apply IsS45.alloc | apply IsS45.drewN | apply IsS45.drew | apply IsS45.set_0 | apply IsS45.set_1 | apply IsS45.set_2) | exact HI0.out)); (case side2 => repeat (first | (with_reducible first | exact HB.out | apply below_alloc | apply pw_below_drewN | apply below_drew1 | refine below_set ?_ (IsS45.ge HI0.out)) | exact HB.out)); rintro e w6 ⟨rfl, hi, hb, hk⟩; have n0_ := Aside0.mk (KeepBut.trans (by repeat (first | (with_reducible first | exact HK.out | apply KeepBut.set_ | apply keep_drewN | apply keep_drew | apply keep_alloc) | exact HK.out)) hk (.inl rfl)); have n1_ := Aside0.mk (hb); have n2_ := Aside0.mk (hi); clear HK; clear HB; clear HI0; have HK := n0_; have HB := n1_; have HI0 := n2_; clear n0_ n1_ n2_; (try clear hb); (try clear hb2); (try clear hk); (try clear hi); obtain ⟨HGz7, hgz7⟩ := HI0.out; have hcz7_0 := cellS45_0 HGz7; have hcz7_1 := cellS45_1 HGz7; have hcz7_2 := cellS45_2 HGz7; have hfz7_0 := blk_frozen HGz7 0; have hfz7_1 := blk_frozen HGz7 1; have hfz7_2 := blk_frozen HGz7 2; clear HGz7 hgz7) | (go_at_call 51; (with_reducible refine (spec_reading_hex.calls k g t118 (wrap64 (t119 + 1)) t120 t125 t126 t127 t128 w0 _ ?side1 ?side2 A4.out).mono ?_); (case side1 => repeat (first | (with_reducible first | exact HI0.out | apply IsS45.alloc | apply IsS45.drewN | apply IsS45.drew | apply IsS45.set_0 | apply IsS45.set_1 | apply IsS45.set_2) | exact HI0.out)); (case side2 => repeat (first | (with_reducible first | exact HB.out | apply below_alloc | apply pw_below_drewN | apply below_drew1 | refine below_set ?_ (IsS45.ge HI0.out)) | exact HB.out)); rintro e w8 ⟨rfl, hi, hb, hk⟩; have n0_ := Aside0.mk (KeepBut.trans (by repeat (first | (with_reducible first | exact HK.out | apply KeepBut.set_ | apply keep_drewN | apply keep_drew | apply keep_alloc) | exact HK.out)) hk (.inl rfl)); have n1_ := Aside0.mk (hb); have n2_ := Aside0.mk (hi); clear HK; clear HB; clear HI0; have HK := n0_; have HB := n1_; have HI0 := n2_; clear n0_ n1_ n2_; (try clear hb); (try clear hb2); (try clear hk); (try clear hi)))
    repeat (go_quiet (first | (go_at_call 25; (with_reducible refine (spec_reading_next.calls g s0_0 s0_1 s0_2 t117 t118 t119 t120 w0 _ ?side1 ?side2 A2.out).mono ?_); (case side1 => repeat (first | (with_reducible first | exact HI0.out | apply IsS45.alloc | apply IsS45.drewN | apply IsS45.drew | apply IsS45.set_0 | apply IsS45.set_1 | apply IsS45.set_2) | exact HI0.out)); (case side2 => repeat (first | (with_reducible first | exact HB.out | apply below_alloc | apply pw_below_drewN | apply below_drew1 | refine below_set ?_ (IsS45.ge HI0.out)) | exact HB.out)); rintro e w6 ⟨rfl, hi, hb, hk⟩; have n0_ := Aside0.mk (KeepBut.trans (by repeat (first | (with_reducible first | exact HK.out | apply KeepBut.set_ | apply keep_drewN | apply keep_drew | apply keep_alloc) | exact HK.out)) hk (.inl rfl)); have n1_ := Aside0.mk (hb); have n2_ := Aside0.mk (hi); clear HK; clear HB; clear HI0; have HK := n0_; have HB := n1_; have HI0 := n2_; clear n0_ n1_ n2_; (try clear hb); (try clear hb2); (try clear hk); (try clear hi); obtain ⟨HGz7, hgz7⟩ := HI0.out; have hcz7_0 := cellS45_0 HGz7; have hcz7_1 := cellS45_1 HGz7; have hcz7_2 := cellS45_2 HGz7; have hfz7_0 := blk_frozen HGz7 0; have hfz7_1 := blk_frozen HGz7 1; have hfz7_2 := blk_frozen HGz7 2; clear HGz7 hgz7) | (go_at_call 51; (with_reducible refine (spec_reading_hex.calls k g t118 (wrap64 (t119 + 1)) t120 t125 t126 t127 t128 w0 _ ?side1 ?side2 A4.out).mono ?_); (case side1 => repeat (first | (with_reducible first | exact HI0.out | apply IsS45.alloc | apply IsS45.drewN | apply IsS45.drew | apply IsS45.set_0 | apply IsS45.set_1 | apply IsS45.set_2) | exact HI0.out)); (case side2 => repeat (first | (with_reducible first | exact HB.out | apply below_alloc | apply pw_below_drewN | apply below_drew1 | refine below_set ?_ (IsS45.ge HI0.out)) | exact HB.out)); rintro e w8 ⟨rfl, hi, hb, hk⟩; have n0_ := Aside0.mk (KeepBut.trans (by repeat (first | (with_reducible first | exact HK.out | apply KeepBut.set_ | apply keep_drewN | apply keep_drew | apply keep_alloc) | exact HK.out)) hk (.inl rfl)); have n1_ := Aside0.mk (hb); have n2_ := Aside0.mk (hi); clear HK; clear HB; clear HI0; have HK := n0_; have HB := n1_; have HI0 := n2_; clear n0_ n1_ n2_; (try clear hb); (try clear hb2); (try clear hk); (try clear hi))); go_upto_region 14 with (first | (go_at_call 25; (with_reducible refine (spec_reading_next.calls g s0_0 s0_1 s0_2 t117 t118 t119 t120 w0 _ ?side1 ?side2 A2.out).mono ?_); (case side1 => repeat (first | (with_reducible first | exact HI0.out | apply IsS45.alloc | apply IsS45.drewN | apply IsS45.drew | apply IsS45.set_0 | apply IsS45.set_1 | apply IsS45.set_2) | exact HI0.out)); (case side2 => repeat (first | (with_reducible first | exact HB.out | apply below_alloc | apply pw_below_drewN | apply below_drew1 | refine below_set ?_ (IsS45.ge HI0.out)) | exact HB.out)); rintro e w6 ⟨rfl, hi, hb, hk⟩; have n0_ := Aside0.mk (KeepBut.trans (by repeat (first | (with_reducible first | exact HK.out | apply KeepBut.set_ | apply keep_drewN | apply keep_drew | apply keep_alloc) | exact HK.out)) hk (.inl rfl)); have n1_ := Aside0.mk (hb); have n2_ := Aside0.mk (hi); clear HK; clear HB; clear HI0; have HK := n0_; have HB := n1_; have HI0 := n2_; clear n0_ n1_ n2_; (try clear hb); (try clear hb2); (try clear hk); (try clear hi); obtain ⟨HGz7, hgz7⟩ := HI0.out; have hcz7_0 := cellS45_0 HGz7; have hcz7_1 := cellS45_1 HGz7; have hcz7_2 := cellS45_2 HGz7; have hfz7_0 := blk_frozen HGz7 0; have hfz7_1 := blk_frozen HGz7 1; have hfz7_2 := blk_frozen HGz7 2; clear HGz7 hgz7) | (go_at_call 51; (with_reducible refine (spec_reading_hex.calls k g t118 (wrap64 (t119 + 1)) t120 t125 t126 t127 t128 w0 _ ?side1 ?side2 A4.out).mono ?_); (case side1 => repeat (first | (with_reducible first | exact HI0.out | apply IsS45.alloc | apply IsS45.drewN | apply IsS45.drew | apply IsS45.set_0 | apply IsS45.set_1 | apply IsS45.set_2) | exact HI0.out)); (case side2 => repeat (first | (with_reducible first | exact HB.out | apply below_alloc | apply pw_below_drewN | apply below_drew1 | refine below_set ?_ (IsS45.ge HI0.out)) | exact HB.out)); rintro e w8 ⟨rfl, hi, hb, hk⟩; have n0_ := Aside0.mk (KeepBut.trans (by repeat (first | (with_reducible first | exact HK.out | apply KeepBut.set_ | apply keep_drewN | apply keep_drew | apply keep_alloc) | exact HK.out)) hk (.inl rfl)); have n1_ := Aside0.mk (hb); have n2_ := Aside0.mk (hi); clear HK; clear HB; clear HI0; have HK := n0_; have HB := n1_; have HI0 := n2_; clear n0_ n1_ n2_; (try clear hb); (try clear hb2); (try clear hk); (try clear hi))))
    (try simp only [Act.put, List.setIfInBounds_toArray, List.set_cons_zero, List.set_cons_succ])
    go_cut [59] (fun v59 wc => ∃ (kq : Nat) (x59_4 : Bool), v59 = .bool x59_4 ∧ Aside0 (spec_reading_escape.j1 kq t125 x59_4 t126 t127 t128 = some (r1, r2, r3, r4, r5)) ∧ Aside0 (kq ≤ k) ∧ Aside0 (IsS45 w0 wc g t126 t127 t128) ∧ Aside0 (KeepBut w wc g none) ∧ Aside0 (Below w0.heap.size w0 wc))
    case first =>
      have H := HC5.out
      clear HC5
      by_cases c9 : t125 < 55296
      · rw [if_pos c9] at H
        have c9b0 : decide (t125 < 55296) = true := decide_eq_true c9
        clear c9
        (first | rw [c9b0] | (simp only [i64_w, i32_w]; rw [c9b0]) | skip)
        have H' := Aside0.mk H
        clear H
        go_wp2
        repeat (go_quiet (fail); try go_wp2)
        go_meet
        case rel => exact ⟨_, (true), (by first | rfl | (simp; done) | (simp [*]; done)), H', ⟨by first | omega | exact Nat.le_refl _⟩, ⟨by repeat (first | (with_reducible first | exact HI0.out | apply IsS45.alloc | apply IsS45.drewN | apply IsS45.drew | apply IsS45.set_0 | apply IsS45.set_1 | apply IsS45.set_2) | exact HI0.out)⟩, ⟨by repeat (first | (with_reducible first | exact HK.out | apply KeepBut.set_ | apply keep_drewN | apply keep_drew | apply keep_alloc) | exact HK.out)⟩, ⟨by repeat (first | (with_reducible first | exact HB.out | apply below_alloc | apply pw_below_drewN | apply below_drew1 | refine below_set ?_ (IsS45.ge HI0.out)) | exact HB.out)⟩⟩
      · rw [if_neg c9] at H
        have c9b0 : decide (t125 < 55296) = false := decide_eq_false c9
        clear c9
        (first | rw [c9b0] | (simp only [i64_w, i32_w]; rw [c9b0]) | skip)
        by_cases c10 : t125 > 57343
        · rw [if_pos c10] at H
          have c10b0 : decide (57343 < t125) = true := decide_eq_true c10
          clear c10
          have H' := Aside0.mk H
          clear H
          go_wp2
          repeat (go_quiet (fail); try go_wp2)
          go_meet
          case rel => exact ⟨_, (true), (by first | rfl | (simp; done) | (simp [*]; done)), H', ⟨by first | omega | exact Nat.le_refl _⟩, ⟨by repeat (first | (with_reducible first | exact HI0.out | apply IsS45.alloc | apply IsS45.drewN | apply IsS45.drew | apply IsS45.set_0 | apply IsS45.set_1 | apply IsS45.set_2) | exact HI0.out)⟩, ⟨by repeat (first | (with_reducible first | exact HK.out | apply KeepBut.set_ | apply keep_drewN | apply keep_drew | apply keep_alloc) | exact HK.out)⟩, ⟨by repeat (first | (with_reducible first | exact HB.out | apply below_alloc | apply pw_below_drewN | apply below_drew1 | refine below_set ?_ (IsS45.ge HI0.out)) | exact HB.out)⟩⟩
        · rw [if_neg c10] at H
          have c10b0 : decide (57343 < t125) = false := decide_eq_false c10
          clear c10
          have H' := Aside0.mk H
          clear H
          obtain ⟨HGz11, hgz11⟩ := HI0.out
          have hcz11_0 := cellS45_0 HGz11
          have hcz11_1 := cellS45_1 HGz11
          have hcz11_2 := cellS45_2 HGz11
          have hfz11_0 := blk_frozen HGz11 0
          have hfz11_1 := blk_frozen HGz11 1
          have hfz11_2 := blk_frozen HGz11 2
          clear HGz11 hgz11
          go_wp2
          repeat (go_quiet (fail); try go_wp2)
          go_meet
          case rel => exact ⟨_, (t128), (by first | rfl | (simp; done) | (simp [*]; done)), H', ⟨by first | omega | exact Nat.le_refl _⟩, ⟨by repeat (first | (with_reducible first | exact HI0.out | apply IsS45.alloc | apply IsS45.drewN | apply IsS45.drew | apply IsS45.set_0 | apply IsS45.set_1 | apply IsS45.set_2) | exact HI0.out)⟩, ⟨by repeat (first | (with_reducible first | exact HK.out | apply KeepBut.set_ | apply keep_drewN | apply keep_drew | apply keep_alloc) | exact HK.out)⟩, ⟨by repeat (first | (with_reducible first | exact HB.out | apply below_alloc | apply pw_below_drewN | apply below_drew1 | refine below_set ?_ (IsS45.ge HI0.out)) | exact HB.out)⟩⟩
    case rest =>
      clear HC5
      try clear c1
      try clear p2
      try clear c3
      try clear c3b0
      try clear c3b1
      try clear c4
      try clear p6
      try clear c9
      try clear c9b0
      try clear c10
      try clear c10b0
      try clear hcz11_0
      try clear hcz11_1
      try clear hcz11_2
      try clear hcz7_0
      try clear hcz7_1
      try clear hcz7_2
      try clear hfz11_0
      try clear hfz11_1
      try clear hfz11_2
      try clear hfz7_0
      try clear hfz7_1
      try clear hfz7_2
      obtain ⟨kq, x59_4, rfl, HA, HJ4, HI0, HK, HB⟩ := hcut
      cases kq with
      | zero => exact absurd HA.out (by simp [spec_reading_escape.j1])
      | succ kj4 =>
        have H := HA.out
        clear HA
        simp only [spec_reading_escape.j1] at H
        by_cases c12 : x59_4 = true
        · subst c12
          have H1 : ((spec_Rune.f t125).bind fun t129 => (some (t129, true, t126, t127, t128))) = some (r1, r2, r3, r4, r5) := by rw [if_pos rfl] at H; exact H
          clear H
          have H := H1
          clear H1
          replace H := Option.bind_eq_some_iff.mp H
          obtain ⟨t129, A130, H⟩ := H
          replace H : (some (t129, true, t126, t127, t128)) = some (r1, r2, r3, r4, r5) := H
          have A13 := Aside0.mk A130
          clear A130
          simp only [Option.some.injEq, Prod.mk.injEq] at H
          obtain ⟨rfl, rfl, rfl, rfl, rfl⟩ := H
          go_wp2_with (first | (go_at_call 52; (with_reducible refine (spec_Rune.calls t125 t129 _ A13.out).mono ?_); rintro e w14 ⟨rfl, hb⟩; have n0_ := Aside0.mk (IsS45.below (by repeat (first | (with_reducible first | exact HI0.out | apply IsS45.alloc | apply IsS45.drewN | apply IsS45.drew | apply IsS45.set_0 | apply IsS45.set_1 | apply IsS45.set_2) | exact HI0.out)) hb); have n1_ := Aside0.mk (KeepBut.trans (by repeat (first | (with_reducible first | exact HK.out | apply KeepBut.set_ | apply keep_drewN | apply keep_drew | apply keep_alloc) | exact HK.out)) (KeepBut.of_below hb g none) (.inl rfl)); have n2_ := Aside0.mk (below_step (by repeat (first | (with_reducible first | exact HB.out | apply below_alloc | apply pw_below_drewN | apply below_drew1 | refine below_set ?_ (IsS45.ge HI0.out)) | exact HB.out)) hb); clear HI0; clear HK; clear HB; have HI0 := n0_; have HK := n1_; have HB := n2_; clear n0_ n1_ n2_; (try clear hb); (try clear hb2); (try clear hk); (try clear hi)))
          repeat (go_quiet (first | (go_at_call 52; (with_reducible refine (spec_Rune.calls t125 t129 _ A13.out).mono ?_); rintro e w14 ⟨rfl, hb⟩; have n0_ := Aside0.mk (IsS45.below (by repeat (first | (with_reducible first | exact HI0.out | apply IsS45.alloc | apply IsS45.drewN | apply IsS45.drew | apply IsS45.set_0 | apply IsS45.set_1 | apply IsS45.set_2) | exact HI0.out)) hb); have n1_ := Aside0.mk (KeepBut.trans (by repeat (first | (with_reducible first | exact HK.out | apply KeepBut.set_ | apply keep_drewN | apply keep_drew | apply keep_alloc) | exact HK.out)) (KeepBut.of_below hb g none) (.inl rfl)); have n2_ := Aside0.mk (below_step (by repeat (first | (with_reducible first | exact HB.out | apply below_alloc | apply pw_below_drewN | apply below_drew1 | refine below_set ?_ (IsS45.ge HI0.out)) | exact HB.out)) hb); clear HI0; clear HK; clear HB; have HI0 := n0_; have HK := n1_; have HB := n2_; clear n0_ n1_ n2_; (try clear hb); (try clear hb2); (try clear hk); (try clear hi))); try go_wp2_with (first | (go_at_call 52; (with_reducible refine (spec_Rune.calls t125 t129 _ A13.out).mono ?_); rintro e w14 ⟨rfl, hb⟩; have n0_ := Aside0.mk (IsS45.below (by repeat (first | (with_reducible first | exact HI0.out | apply IsS45.alloc | apply IsS45.drewN | apply IsS45.drew | apply IsS45.set_0 | apply IsS45.set_1 | apply IsS45.set_2) | exact HI0.out)) hb); have n1_ := Aside0.mk (KeepBut.trans (by repeat (first | (with_reducible first | exact HK.out | apply KeepBut.set_ | apply keep_drewN | apply keep_drew | apply keep_alloc) | exact HK.out)) (KeepBut.of_below hb g none) (.inl rfl)); have n2_ := Aside0.mk (below_step (by repeat (first | (with_reducible first | exact HB.out | apply below_alloc | apply pw_below_drewN | apply below_drew1 | refine below_set ?_ (IsS45.ge HI0.out)) | exact HB.out)) hb); clear HI0; clear HK; clear HB; have HI0 := n0_; have HK := n1_; have HB := n2_; clear n0_ n1_ n2_; (try clear hb); (try clear hb2); (try clear hk); (try clear hi))))
          go_ret2
          exact ⟨by first | rfl | (simp [errW_none, errW_some] <;> rfl) | (simp [*, errW_none, errW_some] <;> rfl), by repeat (first | (with_reducible first | exact HI0.out | apply IsS45.alloc | apply IsS45.drewN | apply IsS45.drew | apply IsS45.set_0 | apply IsS45.set_1 | apply IsS45.set_2) | exact HI0.out), by repeat (first | (with_reducible first | exact HB.out | apply below_alloc | apply pw_below_drewN | apply below_drew1 | refine below_set ?_ (IsS45.ge HI0.out)) | exact HB.out), by repeat (first | (with_reducible first | exact HK.out | apply KeepBut.set_ | apply keep_drewN | apply keep_drew | apply keep_alloc) | exact HK.out)⟩
        · replace c12 := Bool.eq_false_iff.mpr c12
          subst c12
          have H1 : (if t125 ≥ 56320 then (spec_reading_escape.j2 kj4 t125 true t126 t127 t128) else (if (wrap64 (t127 + 1)) ≥ (t126.size : Int) then (spec_reading_escape.j2 kj4 t125 true t126 t127 t128) else (if 0 ≤ t127 then (if t127 < (t126.size : Int) then (if (bt t126 t127) = 92 then (if 0 ≤ (wrap64 (t127 + 1)) then (if (wrap64 (t127 + 1)) < (t126.size : Int) then (spec_reading_escape.j2 kj4 t125 ((bt t126 (wrap64 (t127 + 1))) != 117) t126 t127 t128) else (none)) else (none)) else (spec_reading_escape.j2 kj4 t125 true t126 t127 t128)) else (none)) else (none)))) = some (r1, r2, r3, r4, r5) := by rw [if_neg (show ¬ (false = true) by decide)] at H; exact H
          clear H
          have H := H1
          clear H1
          have HC15 := Aside0.mk H
          clear H
          go_upto_region 16 with (fail)
          repeat (go_quiet (fail); go_upto_region 16 with (fail))
          go_cut [101] (fun v101 wc => ∃ (kq : Nat) (x101_14 : Bool), v101 = .bool x101_14 ∧ Aside0 (spec_reading_escape.j2 kq t125 x101_14 t126 t127 t128 = some (r1, r2, r3, r4, r5)) ∧ Aside0 (kq ≤ kj4) ∧ Aside0 (IsS45 w0 wc g t126 t127 t128) ∧ Aside0 (KeepBut w wc g none) ∧ Aside0 (Below w0.heap.size w0 wc))
          case first =>
            have H := HC15.out
            clear HC15
            by_cases c16 : t125 ≥ 56320
            · rw [if_pos c16] at H
              have c16b0 : decide (56320 ≤ t125) = true := decide_eq_true c16
              clear c16
              (first | rw [c16b0] | (simp only [i64_w, i32_w]; rw [c16b0]) | skip)
              have H' := Aside0.mk H
              clear H
              go_wp2
              repeat (go_quiet (fail); try go_wp2)
              go_meet
              case rel => exact ⟨_, (true), (by first | rfl | (simp; done) | (simp [*]; done)), H', ⟨by have := HJ4.out; first | omega | exact Nat.le_refl _⟩, ⟨by repeat (first | (with_reducible first | exact HI0.out | apply IsS45.alloc | apply IsS45.drewN | apply IsS45.drew | apply IsS45.set_0 | apply IsS45.set_1 | apply IsS45.set_2) | exact HI0.out)⟩, ⟨by repeat (first | (with_reducible first | exact HK.out | apply KeepBut.set_ | apply keep_drewN | apply keep_drew | apply keep_alloc) | exact HK.out)⟩, ⟨by repeat (first | (with_reducible first | exact HB.out | apply below_alloc | apply pw_below_drewN | apply below_drew1 | refine below_set ?_ (IsS45.ge HI0.out)) | exact HB.out)⟩⟩
            · rw [if_neg c16] at H
              have c16b0 : decide (56320 ≤ t125) = false := decide_eq_false c16
              clear c16
              (first | rw [c16b0] | (simp only [i64_w, i32_w]; rw [c16b0]) | skip)
              by_cases c17 : (wrap64 (t127 + 1)) ≥ (t126.size : Int)
              · rw [if_pos c17] at H
                have c17b0 : decide ((t126.size : Int) ≤ (wrap64 (t127 + 1))) = true := decide_eq_true c17
                clear c17
                have H' := Aside0.mk H
                clear H
                obtain ⟨HGz18, hgz18⟩ := HI0.out
                have hcz18_0 := cellS45_0 HGz18
                have hcz18_1 := cellS45_1 HGz18
                have hcz18_2 := cellS45_2 HGz18
                have hfz18_0 := blk_frozen HGz18 0
                have hfz18_1 := blk_frozen HGz18 1
                have hfz18_2 := blk_frozen HGz18 2
                clear HGz18 hgz18
                go_wp2
                repeat (go_quiet (fail); try go_wp2)
                go_meet
                case rel => exact ⟨_, (true), (by first | rfl | (simp; done) | (simp [*]; done)), H', ⟨by have := HJ4.out; first | omega | exact Nat.le_refl _⟩, ⟨by repeat (first | (with_reducible first | exact HI0.out | apply IsS45.alloc | apply IsS45.drewN | apply IsS45.drew | apply IsS45.set_0 | apply IsS45.set_1 | apply IsS45.set_2) | exact HI0.out)⟩, ⟨by repeat (first | (with_reducible first | exact HK.out | apply KeepBut.set_ | apply keep_drewN | apply keep_drew | apply keep_alloc) | exact HK.out)⟩, ⟨by repeat (first | (with_reducible first | exact HB.out | apply below_alloc | apply pw_below_drewN | apply below_drew1 | refine below_set ?_ (IsS45.ge HI0.out)) | exact HB.out)⟩⟩
              · rw [if_neg c17] at H
                have c17b0 : decide ((t126.size : Int) ≤ (wrap64 (t127 + 1))) = false := decide_eq_false c17
                clear c17
                by_cases c19 : 0 ≤ t127
                · rw [if_pos c19] at H
                  have c19b0 : decide (0 ≤ t127) = true := decide_eq_true c19
                  clear c19
                  by_cases c20 : t127 < (t126.size : Int)
                  · rw [if_pos c20] at H
                    have c20b0 : decide (t127 < (t126.size : Int)) = true := decide_eq_true c20
                    clear c20
                    by_cases c22 : (bt t126 t127) = 92
                    · rw [if_pos c22] at H
                      have c22b0 : ((bt t126 t127) == 92) = true := beq_iff_eq.mpr c22
                      have c22b1 : ((bt t126 t127) != 92) = false := bne_eq_false_iff_eq.mpr c22
                      clear c22
                      obtain ⟨ji23, hji23⟩ : ∃ j_ : Int, (wrap64 (t127 + 1)) = j_ := ⟨_, rfl⟩
                      replace H : (if 0 ≤ (ji23) then (if (ji23) < (t126.size : Int) then (spec_reading_escape.j2 kj4 t125 ((bt t126 (ji23)) != 117) t126 t127 t128) else (none)) else (none)) = some (r1, r2, r3, r4, r5) := by first | (rw [hji23] at H; exact H) | (simp only [hji23] at H ⊢; exact H)
                      (try rw [hji23] at c17b0)
                      have hji23w : (IntKind.i64.wrap (t127 + 1)) = ji23 := (i64_w _).trans hji23
                      by_cases c24 : 0 ≤ (ji23)
                      · rw [if_pos c24] at H
                        have c24b0 : decide (0 ≤ (ji23)) = true := decide_eq_true c24
                        clear c24
                        by_cases c25 : (ji23) < (t126.size : Int)
                        · rw [if_pos c25] at H
                          have c25b0 : decide ((ji23) < (t126.size : Int)) = true := decide_eq_true c25
                          clear c25
                          have H' := Aside0.mk H
                          clear H
                          obtain ⟨HGz27, hgz27⟩ := HI0.out
                          have hcz27_0 := cellS45_0 HGz27
                          have hcz27_1 := cellS45_1 HGz27
                          have hcz27_2 := cellS45_2 HGz27
                          have hfz27_0 := blk_frozen HGz27 0
                          have hfz27_1 := blk_frozen HGz27 1
                          have hfz27_2 := blk_frozen HGz27 2
                          clear HGz27 hgz27
                          have p21 : 0 ≤ (t127 : Int) := of_decide_eq_true (by first | (with_reducible assumption) | assumption)
                          have q21 : t127 < (t126.size : Int) := of_decide_eq_true (by first | (with_reducible assumption) | assumption)
                          have hx21 := bt_at t126 t127
                          replace p21 := eq_true p21
                          replace q21 := eq_true q21
                          have p26 : 0 ≤ ((ji23) : Int) := of_decide_eq_true (by first | (with_reducible assumption) | assumption)
                          have q26 : (ji23) < (t126.size : Int) := of_decide_eq_true (by first | (with_reducible assumption) | assumption)
                          have hx26 := bt_at t126 (ji23)
                          replace p26 := eq_true p26
                          replace q26 := eq_true q26
                          go_wp2
                          repeat (go_quiet (fail); try go_wp2)
                          go_meet
                          case rel => exact ⟨_, (((bt t126 (ji23)) != 117)), (by first | rfl | (simp; done) | (simp only [← hji23] <;> (first | rfl | simp)) | (simp [*]; done)), H', ⟨by have := HJ4.out; first | omega | exact Nat.le_refl _⟩, ⟨by repeat (first | (with_reducible first | exact HI0.out | apply IsS45.alloc | apply IsS45.drewN | apply IsS45.drew | apply IsS45.set_0 | apply IsS45.set_1 | apply IsS45.set_2) | exact HI0.out)⟩, ⟨by repeat (first | (with_reducible first | exact HK.out | apply KeepBut.set_ | apply keep_drewN | apply keep_drew | apply keep_alloc) | exact HK.out)⟩, ⟨by repeat (first | (with_reducible first | exact HB.out | apply below_alloc | apply pw_below_drewN | apply below_drew1 | refine below_set ?_ (IsS45.ge HI0.out)) | exact HB.out)⟩⟩
                        · rw [if_neg c25] at H
                          exact absurd H (by simp)
                      · rw [if_neg c24] at H
                        exact absurd H (by simp)
                    · rw [if_neg c22] at H
                      have c22b0 : ((bt t126 t127) == 92) = false := beq_eq_false_iff_ne.mpr c22
                      have c22b1 : ((bt t126 t127) != 92) = true := bne_iff_ne.mpr c22
                      have H' := Aside0.mk H
                      clear H
                      obtain ⟨HGz28, hgz28⟩ := HI0.out
                      have hcz28_0 := cellS45_0 HGz28
                      have hcz28_1 := cellS45_1 HGz28
                      have hcz28_2 := cellS45_2 HGz28
                      have hfz28_0 := blk_frozen HGz28 0
                      have hfz28_1 := blk_frozen HGz28 1
                      have hfz28_2 := blk_frozen HGz28 2
                      clear HGz28 hgz28
                      have p21 : 0 ≤ (t127 : Int) := of_decide_eq_true (by first | (with_reducible assumption) | assumption)
                      have q21 : t127 < (t126.size : Int) := of_decide_eq_true (by first | (with_reducible assumption) | assumption)
                      have hx21 := bt_at t126 t127
                      replace p21 := eq_true p21
                      replace q21 := eq_true q21
                      go_wp2
                      repeat (go_quiet (fail); try go_wp2)
                      go_meet
                      case rel => exact ⟨_, (true), (by first | rfl | (simp; done) | (simp [*]; done)), H', ⟨by have := HJ4.out; first | omega | exact Nat.le_refl _⟩, ⟨by repeat (first | (with_reducible first | exact HI0.out | apply IsS45.alloc | apply IsS45.drewN | apply IsS45.drew | apply IsS45.set_0 | apply IsS45.set_1 | apply IsS45.set_2) | exact HI0.out)⟩, ⟨by repeat (first | (with_reducible first | exact HK.out | apply KeepBut.set_ | apply keep_drewN | apply keep_drew | apply keep_alloc) | exact HK.out)⟩, ⟨by repeat (first | (with_reducible first | exact HB.out | apply below_alloc | apply pw_below_drewN | apply below_drew1 | refine below_set ?_ (IsS45.ge HI0.out)) | exact HB.out)⟩⟩
                  · rw [if_neg c20] at H
                    exact absurd H (by simp)
                · rw [if_neg c19] at H
                  exact absurd H (by simp)
          case rest =>
            clear HC15
            try clear c1
            try clear c2
            try clear p2
            try clear q2
            try clear hx2
            try clear c3
            try clear c3b0
            try clear c3b1
            try clear c4
            try clear p6
            try clear c9
            try clear c9b0
            try clear c10
            try clear c10b0
            try clear c12
            try clear c16
            try clear c16b0
            try clear c17
            try clear c17b0
            try clear c19
            try clear c19b0
            try clear c20
            try clear c20b0
            try clear p21
            try clear q21
            try clear hx21
            try clear c22
            try clear c22b0
            try clear c22b1
            try clear c24
            try clear c24b0
            try clear c25
            try clear c25b0
            try clear p26
            try clear q26
            try clear hx26
            try clear hcz11_0
            try clear hcz11_1
            try clear hcz11_2
            try clear hcz18_0
            try clear hcz18_1
            try clear hcz18_2
            try clear hcz27_0
            try clear hcz27_1
            try clear hcz27_2
            try clear hcz28_0
            try clear hcz28_1
            try clear hcz28_2
            try clear hcz7_0
            try clear hcz7_1
            try clear hcz7_2
            try clear hfz11_0
            try clear hfz11_1
            try clear hfz11_2
            try clear hfz18_0
            try clear hfz18_1
            try clear hfz18_2
            try clear hfz27_0
            try clear hfz27_1
            try clear hfz27_2
            try clear hfz28_0
            try clear hfz28_1
            try clear hfz28_2
            try clear hfz7_0
            try clear hfz7_1
            try clear hfz7_2
            try clear p2
            try clear p21
            try clear p26
            try clear p6
            try clear q21
            try clear q26
            obtain ⟨kq, x101_14, rfl, HA, HJ14, HI0, HK, HB⟩ := hcut
            cases kq with
            | zero => exact absurd HA.out (by simp [spec_reading_escape.j2])
            | succ kj14 =>
              have H := HA.out
              clear HA
              simp only [spec_reading_escape.j2] at H
              by_cases c29 : x101_14 = true
              · subst c29
                have H1 : (some ((⟨#[]⟩ : ByteArray), false, t126, t127, t128)) = some (r1, r2, r3, r4, r5) := by rw [if_pos rfl] at H; exact H
                clear H
                have H := H1
                clear H1
                simp only [Option.some.injEq, Prod.mk.injEq] at H
                obtain ⟨rfl, rfl, rfl, rfl, rfl⟩ := H
                go_wp2
                repeat (go_quiet (fail); try go_wp2)
                go_ret2
                exact ⟨by first | rfl | (simp [errW_none, errW_some] <;> rfl) | (simp [*, errW_none, errW_some] <;> rfl), by repeat (first | (with_reducible first | exact HI0.out | apply IsS45.alloc | apply IsS45.drewN | apply IsS45.drew | apply IsS45.set_0 | apply IsS45.set_1 | apply IsS45.set_2) | exact HI0.out), by repeat (first | (with_reducible first | exact HB.out | apply below_alloc | apply pw_below_drewN | apply below_drew1 | refine below_set ?_ (IsS45.ge HI0.out)) | exact HB.out), by repeat (first | (with_reducible first | exact HK.out | apply KeepBut.set_ | apply keep_drewN | apply keep_drew | apply keep_alloc) | exact HK.out)⟩
              · replace c29 := Bool.eq_false_iff.mpr c29
                subst c29
                have H1 : ((spec_reading_hex.f kj14 t126 (wrap64 (t127 + 2)) t128).bind fun bt130 => (if bt130.1 < 56320 then (some ((⟨#[]⟩ : ByteArray), false, bt130.2.1, bt130.2.2.1, bt130.2.2.2)) else (if bt130.1 > 57343 then (some ((⟨#[]⟩ : ByteArray), false, bt130.2.1, bt130.2.2.1, bt130.2.2.2)) else ((spec_Rune.f (wrap64 ((wrap64 ((wrap64 (65536 + (wrap64 ((wrap64 (t125 - 55296)) * 1024)))) + bt130.1)) - 56320))).bind fun t134 => (some (t134, true, bt130.2.1, bt130.2.2.1, bt130.2.2.2)))))) = some (r1, r2, r3, r4, r5) := by rw [if_neg (show ¬ (false = true) by decide)] at H; exact H
                clear H
                have H := H1
                clear H1
                replace H := Option.bind_eq_some_iff.mp H
                obtain ⟨⟨t130, t131, t132, t133⟩, A300, H⟩ := H
                replace H : (if t130 < 56320 then (some ((⟨#[]⟩ : ByteArray), false, t131, t132, t133)) else (if t130 > 57343 then (some ((⟨#[]⟩ : ByteArray), false, t131, t132, t133)) else ((spec_Rune.f (wrap64 ((wrap64 ((wrap64 (65536 + (wrap64 ((wrap64 (t125 - 55296)) * 1024)))) + t130)) - 56320))).bind fun t134 => (some (t134, true, t131, t132, t133))))) = some (r1, r2, r3, r4, r5) := H
                have A30 := Aside0.mk A300
                clear A300
                by_cases c31 : t130 < 56320
                · rw [if_pos c31] at H
                  have c31b0 : decide (t130 < 56320) = true := decide_eq_true c31
                  clear c31
                  simp only [Option.some.injEq, Prod.mk.injEq] at H
                  obtain ⟨rfl, rfl, rfl, rfl, rfl⟩ := H
                  obtain ⟨HGz32, hgz32⟩ := HI0.out
                  have hcz32_0 := cellS45_0 HGz32
                  have hcz32_1 := cellS45_1 HGz32
                  have hcz32_2 := cellS45_2 HGz32
                  have hfz32_0 := blk_frozen HGz32 0
                  have hfz32_1 := blk_frozen HGz32 1
                  have hfz32_2 := blk_frozen HGz32 2
                  clear HGz32 hgz32
                  go_wp2_with (first | (go_at_call 51; (with_reducible refine (spec_reading_hex.calls kj14 g t126 (wrap64 (t127 + 2)) t128 t130 t131 t132 t133 w0 _ ?side1 ?side2 A30.out).mono ?_); (case side1 => repeat (first | (with_reducible first | exact HI0.out | apply IsS45.alloc | apply IsS45.drewN | apply IsS45.drew | apply IsS45.set_0 | apply IsS45.set_1 | apply IsS45.set_2) | exact HI0.out)); (case side2 => repeat (first | (with_reducible first | exact HB.out | apply below_alloc | apply pw_below_drewN | apply below_drew1 | refine below_set ?_ (IsS45.ge HI0.out)) | exact HB.out)); rintro e w33 ⟨rfl, hi, hb, hk⟩; have n0_ := Aside0.mk (KeepBut.trans (by repeat (first | (with_reducible first | exact HK.out | apply KeepBut.set_ | apply keep_drewN | apply keep_drew | apply keep_alloc) | exact HK.out)) hk (.inl rfl)); have n1_ := Aside0.mk (hb); have n2_ := Aside0.mk (hi); clear HK; clear HB; clear HI0; have HK := n0_; have HB := n1_; have HI0 := n2_; clear n0_ n1_ n2_; (try clear hb); (try clear hb2); (try clear hk); (try clear hi)))
                  repeat (go_quiet (first | (go_at_call 51; (with_reducible refine (spec_reading_hex.calls kj14 g t126 (wrap64 (t127 + 2)) t128 t130 t131 t132 t133 w0 _ ?side1 ?side2 A30.out).mono ?_); (case side1 => repeat (first | (with_reducible first | exact HI0.out | apply IsS45.alloc | apply IsS45.drewN | apply IsS45.drew | apply IsS45.set_0 | apply IsS45.set_1 | apply IsS45.set_2) | exact HI0.out)); (case side2 => repeat (first | (with_reducible first | exact HB.out | apply below_alloc | apply pw_below_drewN | apply below_drew1 | refine below_set ?_ (IsS45.ge HI0.out)) | exact HB.out)); rintro e w33 ⟨rfl, hi, hb, hk⟩; have n0_ := Aside0.mk (KeepBut.trans (by repeat (first | (with_reducible first | exact HK.out | apply KeepBut.set_ | apply keep_drewN | apply keep_drew | apply keep_alloc) | exact HK.out)) hk (.inl rfl)); have n1_ := Aside0.mk (hb); have n2_ := Aside0.mk (hi); clear HK; clear HB; clear HI0; have HK := n0_; have HB := n1_; have HI0 := n2_; clear n0_ n1_ n2_; (try clear hb); (try clear hb2); (try clear hk); (try clear hi))); try go_wp2_with (first | (go_at_call 51; (with_reducible refine (spec_reading_hex.calls kj14 g t126 (wrap64 (t127 + 2)) t128 t130 t131 t132 t133 w0 _ ?side1 ?side2 A30.out).mono ?_); (case side1 => repeat (first | (with_reducible first | exact HI0.out | apply IsS45.alloc | apply IsS45.drewN | apply IsS45.drew | apply IsS45.set_0 | apply IsS45.set_1 | apply IsS45.set_2) | exact HI0.out)); (case side2 => repeat (first | (with_reducible first | exact HB.out | apply below_alloc | apply pw_below_drewN | apply below_drew1 | refine below_set ?_ (IsS45.ge HI0.out)) | exact HB.out)); rintro e w33 ⟨rfl, hi, hb, hk⟩; have n0_ := Aside0.mk (KeepBut.trans (by repeat (first | (with_reducible first | exact HK.out | apply KeepBut.set_ | apply keep_drewN | apply keep_drew | apply keep_alloc) | exact HK.out)) hk (.inl rfl)); have n1_ := Aside0.mk (hb); have n2_ := Aside0.mk (hi); clear HK; clear HB; clear HI0; have HK := n0_; have HB := n1_; have HI0 := n2_; clear n0_ n1_ n2_; (try clear hb); (try clear hb2); (try clear hk); (try clear hi))))
                  go_ret2
                  exact ⟨by first | rfl | (simp [errW_none, errW_some] <;> rfl) | (simp [*, errW_none, errW_some] <;> rfl), by repeat (first | (with_reducible first | exact HI0.out | apply IsS45.alloc | apply IsS45.drewN | apply IsS45.drew | apply IsS45.set_0 | apply IsS45.set_1 | apply IsS45.set_2) | exact HI0.out), by repeat (first | (with_reducible first | exact HB.out | apply below_alloc | apply pw_below_drewN | apply below_drew1 | refine below_set ?_ (IsS45.ge HI0.out)) | exact HB.out), by repeat (first | (with_reducible first | exact HK.out | apply KeepBut.set_ | apply keep_drewN | apply keep_drew | apply keep_alloc) | exact HK.out)⟩
                · rw [if_neg c31] at H
                  have c31b0 : decide (t130 < 56320) = false := decide_eq_false c31
                  clear c31
                  by_cases c34 : t130 > 57343
                  · rw [if_pos c34] at H
                    have c34b0 : decide (57343 < t130) = true := decide_eq_true c34
                    clear c34
                    simp only [Option.some.injEq, Prod.mk.injEq] at H
                    obtain ⟨rfl, rfl, rfl, rfl, rfl⟩ := H
                    obtain ⟨HGz35, hgz35⟩ := HI0.out
                    have hcz35_0 := cellS45_0 HGz35
                    have hcz35_1 := cellS45_1 HGz35
                    have hcz35_2 := cellS45_2 HGz35
                    have hfz35_0 := blk_frozen HGz35 0
                    have hfz35_1 := blk_frozen HGz35 1
                    have hfz35_2 := blk_frozen HGz35 2
                    clear HGz35 hgz35
                    go_wp2_with (first | (go_at_call 51; (with_reducible refine (spec_reading_hex.calls kj14 g t126 (wrap64 (t127 + 2)) t128 t130 t131 t132 t133 w0 _ ?side1 ?side2 A30.out).mono ?_); (case side1 => repeat (first | (with_reducible first | exact HI0.out | apply IsS45.alloc | apply IsS45.drewN | apply IsS45.drew | apply IsS45.set_0 | apply IsS45.set_1 | apply IsS45.set_2) | exact HI0.out)); (case side2 => repeat (first | (with_reducible first | exact HB.out | apply below_alloc | apply pw_below_drewN | apply below_drew1 | refine below_set ?_ (IsS45.ge HI0.out)) | exact HB.out)); rintro e w36 ⟨rfl, hi, hb, hk⟩; have n0_ := Aside0.mk (KeepBut.trans (by repeat (first | (with_reducible first | exact HK.out | apply KeepBut.set_ | apply keep_drewN | apply keep_drew | apply keep_alloc) | exact HK.out)) hk (.inl rfl)); have n1_ := Aside0.mk (hb); have n2_ := Aside0.mk (hi); clear HK; clear HB; clear HI0; have HK := n0_; have HB := n1_; have HI0 := n2_; clear n0_ n1_ n2_; (try clear hb); (try clear hb2); (try clear hk); (try clear hi)))
                    repeat (go_quiet (first | (go_at_call 51; (with_reducible refine (spec_reading_hex.calls kj14 g t126 (wrap64 (t127 + 2)) t128 t130 t131 t132 t133 w0 _ ?side1 ?side2 A30.out).mono ?_); (case side1 => repeat (first | (with_reducible first | exact HI0.out | apply IsS45.alloc | apply IsS45.drewN | apply IsS45.drew | apply IsS45.set_0 | apply IsS45.set_1 | apply IsS45.set_2) | exact HI0.out)); (case side2 => repeat (first | (with_reducible first | exact HB.out | apply below_alloc | apply pw_below_drewN | apply below_drew1 | refine below_set ?_ (IsS45.ge HI0.out)) | exact HB.out)); rintro e w36 ⟨rfl, hi, hb, hk⟩; have n0_ := Aside0.mk (KeepBut.trans (by repeat (first | (with_reducible first | exact HK.out | apply KeepBut.set_ | apply keep_drewN | apply keep_drew | apply keep_alloc) | exact HK.out)) hk (.inl rfl)); have n1_ := Aside0.mk (hb); have n2_ := Aside0.mk (hi); clear HK; clear HB; clear HI0; have HK := n0_; have HB := n1_; have HI0 := n2_; clear n0_ n1_ n2_; (try clear hb); (try clear hb2); (try clear hk); (try clear hi))); try go_wp2_with (first | (go_at_call 51; (with_reducible refine (spec_reading_hex.calls kj14 g t126 (wrap64 (t127 + 2)) t128 t130 t131 t132 t133 w0 _ ?side1 ?side2 A30.out).mono ?_); (case side1 => repeat (first | (with_reducible first | exact HI0.out | apply IsS45.alloc | apply IsS45.drewN | apply IsS45.drew | apply IsS45.set_0 | apply IsS45.set_1 | apply IsS45.set_2) | exact HI0.out)); (case side2 => repeat (first | (with_reducible first | exact HB.out | apply below_alloc | apply pw_below_drewN | apply below_drew1 | refine below_set ?_ (IsS45.ge HI0.out)) | exact HB.out)); rintro e w36 ⟨rfl, hi, hb, hk⟩; have n0_ := Aside0.mk (KeepBut.trans (by repeat (first | (with_reducible first | exact HK.out | apply KeepBut.set_ | apply keep_drewN | apply keep_drew | apply keep_alloc) | exact HK.out)) hk (.inl rfl)); have n1_ := Aside0.mk (hb); have n2_ := Aside0.mk (hi); clear HK; clear HB; clear HI0; have HK := n0_; have HB := n1_; have HI0 := n2_; clear n0_ n1_ n2_; (try clear hb); (try clear hb2); (try clear hk); (try clear hi))))
                    go_ret2
                    exact ⟨by first | rfl | (simp [errW_none, errW_some] <;> rfl) | (simp [*, errW_none, errW_some] <;> rfl), by repeat (first | (with_reducible first | exact HI0.out | apply IsS45.alloc | apply IsS45.drewN | apply IsS45.drew | apply IsS45.set_0 | apply IsS45.set_1 | apply IsS45.set_2) | exact HI0.out), by repeat (first | (with_reducible first | exact HB.out | apply below_alloc | apply pw_below_drewN | apply below_drew1 | refine below_set ?_ (IsS45.ge HI0.out)) | exact HB.out), by repeat (first | (with_reducible first | exact HK.out | apply KeepBut.set_ | apply keep_drewN | apply keep_drew | apply keep_alloc) | exact HK.out)⟩
                  · rw [if_neg c34] at H
                    have c34b0 : decide (57343 < t130) = false := decide_eq_false c34
                    clear c34
                    replace H := Option.bind_eq_some_iff.mp H
                    obtain ⟨t134, A370, H⟩ := H
                    replace H : (some (t134, true, t131, t132, t133)) = some (r1, r2, r3, r4, r5) := H
                    have A37 := Aside0.mk A370
                    clear A370
                    simp only [Option.some.injEq, Prod.mk.injEq] at H
                    obtain ⟨rfl, rfl, rfl, rfl, rfl⟩ := H
                    obtain ⟨HGz38, hgz38⟩ := HI0.out
                    have hcz38_0 := cellS45_0 HGz38
                    have hcz38_1 := cellS45_1 HGz38
                    have hcz38_2 := cellS45_2 HGz38
                    have hfz38_0 := blk_frozen HGz38 0
                    have hfz38_1 := blk_frozen HGz38 1
                    have hfz38_2 := blk_frozen HGz38 2
                    clear HGz38 hgz38
                    go_wp2_with (first | (go_at_call 51; (with_reducible refine (spec_reading_hex.calls kj14 g t126 (wrap64 (t127 + 2)) t128 t130 t131 t132 t133 w0 _ ?side1 ?side2 A30.out).mono ?_); (case side1 => repeat (first | (with_reducible first | exact HI0.out | apply IsS45.alloc | apply IsS45.drewN | apply IsS45.drew | apply IsS45.set_0 | apply IsS45.set_1 | apply IsS45.set_2) | exact HI0.out)); (case side2 => repeat (first | (with_reducible first | exact HB.out | apply below_alloc | apply pw_below_drewN | apply below_drew1 | refine below_set ?_ (IsS45.ge HI0.out)) | exact HB.out)); rintro e w39 ⟨rfl, hi, hb, hk⟩; have n0_ := Aside0.mk (KeepBut.trans (by repeat (first | (with_reducible first | exact HK.out | apply KeepBut.set_ | apply keep_drewN | apply keep_drew | apply keep_alloc) | exact HK.out)) hk (.inl rfl)); have n1_ := Aside0.mk (hb); have n2_ := Aside0.mk (hi); clear HK; clear HB; clear HI0; have HK := n0_; have HB := n1_; have HI0 := n2_; clear n0_ n1_ n2_; (try clear hb); (try clear hb2); (try clear hk); (try clear hi)) | (go_at_call 52; (with_reducible refine (spec_Rune.calls (wrap64 ((wrap64 ((wrap64 (65536 + (wrap64 ((wrap64 (t125 - 55296)) * 1024)))) + t130)) - 56320)) t134 _ A37.out).mono ?_); rintro e w40 ⟨rfl, hb⟩; have n0_ := Aside0.mk (IsS45.below (by repeat (first | (with_reducible first | exact HI0.out | apply IsS45.alloc | apply IsS45.drewN | apply IsS45.drew | apply IsS45.set_0 | apply IsS45.set_1 | apply IsS45.set_2) | exact HI0.out)) hb); have n1_ := Aside0.mk (KeepBut.trans (by repeat (first | (with_reducible first | exact HK.out | apply KeepBut.set_ | apply keep_drewN | apply keep_drew | apply keep_alloc) | exact HK.out)) (KeepBut.of_below hb g none) (.inl rfl)); have n2_ := Aside0.mk (below_step (by repeat (first | (with_reducible first | exact HB.out | apply below_alloc | apply pw_below_drewN | apply below_drew1 | refine below_set ?_ (IsS45.ge HI0.out)) | exact HB.out)) hb); clear HI0; clear HK; clear HB; have HI0 := n0_; have HK := n1_; have HB := n2_; clear n0_ n1_ n2_; (try clear hb); (try clear hb2); (try clear hk); (try clear hi)))
                    repeat (go_quiet (first | (go_at_call 51; (with_reducible refine (spec_reading_hex.calls kj14 g t126 (wrap64 (t127 + 2)) t128 t130 t131 t132 t133 w0 _ ?side1 ?side2 A30.out).mono ?_); (case side1 => repeat (first | (with_reducible first | exact HI0.out | apply IsS45.alloc | apply IsS45.drewN | apply IsS45.drew | apply IsS45.set_0 | apply IsS45.set_1 | apply IsS45.set_2) | exact HI0.out)); (case side2 => repeat (first | (with_reducible first | exact HB.out | apply below_alloc | apply pw_below_drewN | apply below_drew1 | refine below_set ?_ (IsS45.ge HI0.out)) | exact HB.out)); rintro e w39 ⟨rfl, hi, hb, hk⟩; have n0_ := Aside0.mk (KeepBut.trans (by repeat (first | (with_reducible first | exact HK.out | apply KeepBut.set_ | apply keep_drewN | apply keep_drew | apply keep_alloc) | exact HK.out)) hk (.inl rfl)); have n1_ := Aside0.mk (hb); have n2_ := Aside0.mk (hi); clear HK; clear HB; clear HI0; have HK := n0_; have HB := n1_; have HI0 := n2_; clear n0_ n1_ n2_; (try clear hb); (try clear hb2); (try clear hk); (try clear hi)) | (go_at_call 52; (with_reducible refine (spec_Rune.calls (wrap64 ((wrap64 ((wrap64 (65536 + (wrap64 ((wrap64 (t125 - 55296)) * 1024)))) + t130)) - 56320)) t134 _ A37.out).mono ?_); rintro e w40 ⟨rfl, hb⟩; have n0_ := Aside0.mk (IsS45.below (by repeat (first | (with_reducible first | exact HI0.out | apply IsS45.alloc | apply IsS45.drewN | apply IsS45.drew | apply IsS45.set_0 | apply IsS45.set_1 | apply IsS45.set_2) | exact HI0.out)) hb); have n1_ := Aside0.mk (KeepBut.trans (by repeat (first | (with_reducible first | exact HK.out | apply KeepBut.set_ | apply keep_drewN | apply keep_drew | apply keep_alloc) | exact HK.out)) (KeepBut.of_below hb g none) (.inl rfl)); have n2_ := Aside0.mk (below_step (by repeat (first | (with_reducible first | exact HB.out | apply below_alloc | apply pw_below_drewN | apply below_drew1 | refine below_set ?_ (IsS45.ge HI0.out)) | exact HB.out)) hb); clear HI0; clear HK; clear HB; have HI0 := n0_; have HK := n1_; have HB := n2_; clear n0_ n1_ n2_; (try clear hb); (try clear hb2); (try clear hk); (try clear hi))); try go_wp2_with (first | (go_at_call 51; (with_reducible refine (spec_reading_hex.calls kj14 g t126 (wrap64 (t127 + 2)) t128 t130 t131 t132 t133 w0 _ ?side1 ?side2 A30.out).mono ?_); (case side1 => repeat (first | (with_reducible first | exact HI0.out | apply IsS45.alloc | apply IsS45.drewN | apply IsS45.drew | apply IsS45.set_0 | apply IsS45.set_1 | apply IsS45.set_2) | exact HI0.out)); (case side2 => repeat (first | (with_reducible first | exact HB.out | apply below_alloc | apply pw_below_drewN | apply below_drew1 | refine below_set ?_ (IsS45.ge HI0.out)) | exact HB.out)); rintro e w39 ⟨rfl, hi, hb, hk⟩; have n0_ := Aside0.mk (KeepBut.trans (by repeat (first | (with_reducible first | exact HK.out | apply KeepBut.set_ | apply keep_drewN | apply keep_drew | apply keep_alloc) | exact HK.out)) hk (.inl rfl)); have n1_ := Aside0.mk (hb); have n2_ := Aside0.mk (hi); clear HK; clear HB; clear HI0; have HK := n0_; have HB := n1_; have HI0 := n2_; clear n0_ n1_ n2_; (try clear hb); (try clear hb2); (try clear hk); (try clear hi)) | (go_at_call 52; (with_reducible refine (spec_Rune.calls (wrap64 ((wrap64 ((wrap64 (65536 + (wrap64 ((wrap64 (t125 - 55296)) * 1024)))) + t130)) - 56320)) t134 _ A37.out).mono ?_); rintro e w40 ⟨rfl, hb⟩; have n0_ := Aside0.mk (IsS45.below (by repeat (first | (with_reducible first | exact HI0.out | apply IsS45.alloc | apply IsS45.drewN | apply IsS45.drew | apply IsS45.set_0 | apply IsS45.set_1 | apply IsS45.set_2) | exact HI0.out)) hb); have n1_ := Aside0.mk (KeepBut.trans (by repeat (first | (with_reducible first | exact HK.out | apply KeepBut.set_ | apply keep_drewN | apply keep_drew | apply keep_alloc) | exact HK.out)) (KeepBut.of_below hb g none) (.inl rfl)); have n2_ := Aside0.mk (below_step (by repeat (first | (with_reducible first | exact HB.out | apply below_alloc | apply pw_below_drewN | apply below_drew1 | refine below_set ?_ (IsS45.ge HI0.out)) | exact HB.out)) hb); clear HI0; clear HK; clear HB; have HI0 := n0_; have HK := n1_; have HB := n2_; clear n0_ n1_ n2_; (try clear hb); (try clear hb2); (try clear hk); (try clear hi))))
                    go_ret2
                    exact ⟨by first | rfl | (simp [errW_none, errW_some] <;> rfl) | (simp [*, errW_none, errW_some] <;> rfl), by repeat (first | (with_reducible first | exact HI0.out | apply IsS45.alloc | apply IsS45.drewN | apply IsS45.drew | apply IsS45.set_0 | apply IsS45.set_1 | apply IsS45.set_2) | exact HI0.out), by repeat (first | (with_reducible first | exact HB.out | apply below_alloc | apply pw_below_drewN | apply below_drew1 | refine below_set ?_ (IsS45.ge HI0.out)) | exact HB.out), by repeat (first | (with_reducible first | exact HK.out | apply KeepBut.set_ | apply keep_drewN | apply keep_drew | apply keep_alloc) | exact HK.out)⟩
  · rw [if_neg c3] at H
    have c3b0 : (t117 == 117) = false := beq_eq_false_iff_ne.mpr c3
    have c3b1 : (t117 != 117) = true := bne_iff_ne.mpr c3
    obtain ⟨y, hy⟩ : ∃ y : List Int, ([34, 92, 47, 98, 102, 110, 114, 116] : List Int) = y := ⟨_, rfl⟩
    have hyl : y.length = 8 := by rw [← hy]; rfl
    have H2 := (Option.bind_some _ _).symm.trans H
    rw [hy, hyl] at H2
    have H' : Aside0 (spec_reading_escape.l0 k t117 y 8 0 t118 t119 t120 = some (r1, r2, r3, r4, r5)) := ⟨H2⟩
    have HY := Aside0.mk (And.intro hy hyl)
    clear H H2 hy hyl
    have hkc := fun (w : World) (C : Array Value) (n c : Nat) => Lib.run_convert_bytes_const (P := Tryd.prog) w 54 5 C n c Tryd.underlying54 Tryd.underlying5
    go_enter Tryd.func42, Tryd.ntmps42
    go_wp2_with fail
    refine (spec_reading_next.calls g s0_0 s0_1 s0_2 t117 t118 t119 t120 w0 _ HI0.out HB.out A2.out).mono ?_
    rintro e w41 ⟨rfl, hi, hb, hk⟩
    have HI1 := Aside0.mk hi
    have HB1 := Aside0.mk hb
    have HK1 := Aside0.mk (KeepBut.trans HK.out hk (.inl rfl))
    clear hi hb hk HI0 HB HK
    go_wp2_with fail
    obtain ⟨B, hB⟩ : ∃ B, w41.heap.size = B := ⟨_, rfl⟩
    rw [hB]
    obtain ⟨W1, hW1⟩ : ∃ W1, w41.alloc (.cells #[.int .u8 34, .int .u8 92, .int .u8 47, .int .u8 98, .int .u8 102, .int .u8 110, .int .u8 114, .int .u8 116] 5 (8, 9)) = W1 := ⟨_, rfl⟩
    rw [hW1]
    have HC : Aside0 (∀ j : Int, 0 ≤ j → j < 8 → W1.cell? ⟨B, j.toNat, none⟩ = some (.int .u8 (rd y j))) := ⟨by
      intro j h0 h8
      rw [← hW1, ← hB, ← HY.out.1, cell_of_row _ _ _ _ _ _ (heap_alloc_new _ _)]
      have hj : j = 0 ∨ j = 1 ∨ j = 2 ∨ j = 3 ∨ j = 4 ∨ j = 5 ∨ j = 6 ∨ j = 7 := by omega
      rcases hj with rfl | rfl | rfl | rfl | rfl | rfl | rfl | rfl <;> rfl⟩
    have HI2 : Aside0 (IsS45 w0 W1 g t118 t119 t120) := ⟨by rw [← hW1]; exact HI1.out.alloc _⟩
    have HB2 : Aside0 (Below w0.heap.size w0 W1) := ⟨by rw [← hW1]; exact below_alloc HB1.out _⟩
    have HK2 : Aside0 (KeepBut w W1 g none) := ⟨by rw [← hW1]; exact keep_alloc HK1.out _⟩
    clear hW1 HI1 HB1 HK1 hkc hB
    go_loopg [16] k (fun kq v16 w' => ∃ (j : Int), v16 = .int .i64 j ∧ w' = W1 ∧ Aside0 (0 ≤ j) ∧ Aside0 (spec_reading_escape.l0 kq t117 y 8 j t118 t119 t120 = some (r1, r2, r3, r4, r5)))
    case atStart => exact ⟨0, rfl, rfl, ⟨Int.le_refl 0⟩, H'⟩
    case round =>
      clear H'
      obtain ⟨j, rfl, rfl, HJ, HA⟩ := hrel
      cases gk with
      | zero => exact absurd HA.out (by simp [spec_reading_escape.l0])
      | succ k1 =>
        have H := HA.out
        clear HA
        simp only [spec_reading_escape.l0] at H
        have p0 : 0 ≤ j := HJ.out
        by_cases c45 : j < 8
        · rw [if_pos c45, if_pos p0, if_pos (by rw [HY.out.2]; exact c45)] at H
          have c45b : decide (j < 8) = true := decide_eq_true c45
          have hx := HC.out j p0 c45
          have ew : wrap64 (j + 1) = j + 1 := by unfold wrap64; omega
          rw [ew] at H
          by_cases c48 : t117 = rd y j
          · rw [if_pos c48, if_pos (by omega), if_pos (by omega)] at H
            have c48b0 : (t117 == rd y j) = true := beq_iff_eq.mpr c48
            simp only [Option.some.injEq, Prod.mk.injEq] at H
            obtain ⟨rfl, rfl, rfl, rfl, rfl⟩ := H
            have q1 : j ≤ j + 1 := by omega
            have q2 : j + 1 ≤ 8 := by omega
            obtain ⟨HGz, hgz⟩ := HI2.out
            have hcz1 := cellS45_1 HGz
            have hfz1 := blk_frozen HGz 1
            clear HGz hgz c48 ew
            go_wp2
            go_ret2
            exact ⟨rfl, IsS45.set_1 HI2.out _, below_set HB2.out (IsS45.ge HI2.out), KeepBut.set_ HK2.out _ _⟩
          · rw [if_neg c48] at H
            have c48b0 : (t117 == rd y j) = false := beq_eq_false_iff_ne.mpr c48
            have H' := Aside0.mk H
            clear H ew c48
            go_wp2
            go_roundg k1
            case measure => omega
            case rel => exact ⟨j + 1, rfl, rfl, ⟨by omega⟩, H'⟩
        · rw [if_neg c45] at H
          have c45b : decide (j < 8) = false := decide_eq_false c45
          simp only [Option.some.injEq, Prod.mk.injEq] at H
          obtain ⟨rfl, rfl, rfl, rfl, rfl⟩ := H
          obtain ⟨HGz, hgz⟩ := HI2.out
          have hcz2 := cellS45_2 HGz
          have hfz2 := blk_frozen HGz 2
          clear HGz hgz
          go_wp2
          go_ret2
          exact ⟨rfl, IsS45.set_2 HI2.out _, below_set HB2.out (IsS45.ge HI2.out), KeepBut.set_ HK2.out _ _⟩
end Go.Proofs.YtldfejbmdonaoaaDoor.Sp