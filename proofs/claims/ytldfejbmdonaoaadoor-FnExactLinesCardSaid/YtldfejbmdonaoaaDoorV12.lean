/- Joined by a program of mine from texts of this claim: Sp9. -/
import Derived.Test.YtldfejbmdonaoaaDoorV4
import Derived.Test.YtldfejbmdonaoaaDoorV5
import Derived.Test.YtldfejbmdonaoaaDoorV11
namespace Go.Proofs.YtldfejbmdonaoaaDoor.Sp
open Go.RowKit YtldfejbmdonaoaaDoorW.PrintWords YtldfejbmdonaoaaDoorW.PrintLast YtldfejbmdonaoaaDoorW.PrintMore
attribute [local go_sem] max2_int min2_int max_two min_two max_three min_three max_four min_four   -- for this text's walks alone
set_option linter.unusedVariables false
set_option linter.unusedSimpArgs false
mutual
def spec_reading_number.j0 : Nat → ByteArray → Int → Bool → Option (ByteArray × Int × Bool)
  | 0, _, _, _ => none
  | k + 1, x1000, x1001, x1002 => (spec_reading_next.f x1000 x1001 x1002).bind fun bt171 => (if bt171.1 = 48 then (spec_reading_number.j1 k bt171.2.1 (wrap64 (bt171.2.2.1 + 1)) bt171.2.2.2) else ((spec_reading_digits.f k bt171.2.1 bt171.2.2.1 bt171.2.2.2).bind fun bt175 => (spec_reading_number.j1 k bt175.1 bt175.2.1 bt175.2.2)))
def spec_reading_number.j1 : Nat → ByteArray → Int → Bool → Option (ByteArray × Int × Bool)
  | 0, _, _, _ => none
  | k + 1, x1000, x1001, x1002 => (spec_reading_next.f x1000 x1001 x1002).bind fun bt178 => (if bt178.1 = 46 then ((spec_reading_digits.f k bt178.2.1 (wrap64 (bt178.2.2.1 + 1)) bt178.2.2.2).bind fun bt182 => (spec_reading_number.j2 k bt182.1 bt182.2.1 bt182.2.2)) else (spec_reading_number.j2 k bt178.2.1 bt178.2.2.1 bt178.2.2.2))
def spec_reading_number.j2 : Nat → ByteArray → Int → Bool → Option (ByteArray × Int × Bool)
  | 0, _, _, _ => none
  | k + 1, x1000, x1001, x1002 => (spec_reading_next.f x1000 x1001 x1002).bind fun bt185 => (if bt185.1 = 101 then (spec_reading_number.j3 k true bt185.2.1 bt185.2.2.1 bt185.2.2.2) else ((spec_reading_next.f bt185.2.1 bt185.2.2.1 bt185.2.2.2).bind fun bt189 => (spec_reading_number.j3 k (bt189.1 == 69) bt189.2.1 bt189.2.2.1 bt189.2.2.2)))
def spec_reading_number.j3 : Nat → Bool → ByteArray → Int → Bool → Option (ByteArray × Int × Bool)
  | 0, _, _, _, _ => none
  | k + 1, x43, x1000, x1001, x1002 => if x43 = true then ((spec_reading_next.f x1000 (wrap64 (x1001 + 1)) x1002).bind fun bt193 => (if bt193.1 = 43 then ((spec_reading_digits.f k bt193.2.1 (wrap64 (bt193.2.2.1 + 1)) bt193.2.2.2).bind fun bt197 => (some (bt197.1, bt197.2.1, bt197.2.2))) else ((spec_reading_next.f bt193.2.1 bt193.2.2.1 bt193.2.2.2).bind fun bt200 => (if bt200.1 = 45 then ((spec_reading_digits.f k bt200.2.1 (wrap64 (bt200.2.2.1 + 1)) bt200.2.2.2).bind fun bt204 => (some (bt204.1, bt204.2.1, bt204.2.2))) else ((spec_reading_digits.f k bt200.2.1 bt200.2.2.1 bt200.2.2.2).bind fun bt207 => (some (bt207.1, bt207.2.1, bt207.2.2))))))) else (some (x1000, x1001, x1002))
end
def spec_reading_number.f (k : Nat) (s0_0 : ByteArray) (s0_1 : Int) (s0_2 : Bool) : Option (ByteArray × Int × Bool) := (spec_reading_next.f s0_0 s0_1 s0_2).bind fun bt167 => (if bt167.1 = 45 then (spec_reading_number.j0 k bt167.2.1 (wrap64 (bt167.2.2.1 + 1)) bt167.2.2.2) else (spec_reading_number.j0 k bt167.2.1 bt167.2.2.1 bt167.2.2.2))
set_option maxHeartbeats 8000000 in
set_option maxRecDepth 100000 in
theorem spec_reading_number.calls (k : Nat) (g : Nat) (s0_0 : ByteArray) (s0_1 : Int) (s0_2 : Bool) (r1 : ByteArray) (r2 : Int) (r3 : Bool) (w0 w : World) (hI : IsS45 w0 w g s0_0 s0_1 s0_2) (hB : Below w0.heap.size w0 w) (h : spec_reading_number.f k s0_0 s0_1 s0_2 = some (r1, r2, r3)) :
    Calls Tryd.prog 29 #[.pointer (some ⟨g, 0, none⟩)] w fun e w' => e = .returned (.tuple #[]) ∧ IsS45 w0 w' g r1 r2 r3 ∧ Below w0.heap.size w0 w' ∧ KeepBut w w' g none := by
  have HI0 := Aside0.mk hI
  have HK := Aside0.mk (KeepBut.refl w g none)
  have HL := Aside0.mk hB.size
  clear hI
  have HW0 := Aside0.mk hB.size
  have HB := Aside0.mk hB
  clear hB
  have H : ((spec_reading_next.f s0_0 s0_1 s0_2).bind fun bt167 => (if bt167.1 = 45 then (spec_reading_number.j0 k bt167.2.1 (wrap64 (bt167.2.2.1 + 1)) bt167.2.2.2) else (spec_reading_number.j0 k bt167.2.1 bt167.2.2.1 bt167.2.2.2))) = some (r1, r2, r3) := h
  clear h
  replace H := Option.bind_eq_some_iff.mp H
  obtain ⟨⟨t167, t168, t169, t170⟩, A20, H⟩ := H
  replace H : (if t167 = 45 then (spec_reading_number.j0 k t168 (wrap64 (t169 + 1)) t170) else (spec_reading_number.j0 k t168 t169 t170)) = some (r1, r2, r3) := H
  have A2 := Aside0.mk A20
  clear A20
  have HC3 := Aside0.mk H
  clear H
  go_enter Tryd.func29, Tryd.ntmps29
  go_upto_if 4 with (first | ((with_reducible refine gate_callee (f := 25) rfl ?_); refine goesL_ (some 3) rfl rfl Tryd.func25 (by kernel_rfl) rfl #[.pointer (some ⟨g, 0, none⟩)] rfl (by (try simp only [List.map_toArray, List.map_cons, List.map_nil]); first | done | rfl | (simp only [List.length_drop, List.length_take]; rfl)) ?_; (with_reducible refine (spec_reading_next.calls g s0_0 s0_1 s0_2 t167 t168 t169 t170 w0 _ ?side1 ?side2 A2.out).mono ?_); (case side1 => repeat (first | (with_reducible first | exact HI0.out | apply IsS45.alloc | apply IsS45.drewN | apply IsS45.drew | apply IsS45.set_0 | apply IsS45.set_1 | apply IsS45.set_2) | exact HI0.out)); (case side2 => repeat (first | (with_reducible first | exact HB.out | apply below_alloc | apply pw_below_drewN | apply below_drew1 | refine below_set ?_ (IsS45.ge HI0.out)) | exact HB.out)); rintro e w4 ⟨rfl, hi, hb, hk⟩; refine ⟨_, rfl, ?_⟩; have n0_ := Aside0.mk (KeepBut.trans (by repeat (first | (with_reducible first | exact HK.out | apply KeepBut.set_ | apply keep_drewN | apply keep_drew | apply keep_alloc) | exact HK.out)) hk (.inl rfl)); have n1_ := Aside0.mk (hb); have n2_ := Aside0.mk (hi); clear HK; clear HB; clear HI0; have HK := n0_; have HB := n1_; have HI0 := n2_; clear n0_ n1_ n2_; (try clear hb); (try clear hb2); (try clear hk); (try clear hi)))
  (try simp only [Act.put, List.setIfInBounds_toArray, List.set_cons_zero, List.set_cons_succ])
  go_cut [] (fun wc => ∃ (kq : Nat) (x1001_2 : Int), Aside0 (spec_reading_number.j0 kq t168 x1001_2 t170 = some (r1, r2, r3)) ∧ Aside0 (kq ≤ k) ∧ Aside0 (IsS45 w0 wc g t168 x1001_2 t170) ∧ Aside0 (KeepBut w wc g none) ∧ Aside0 (Below w0.heap.size w0 wc))
  case first =>
    have H := HC3.out
    clear HC3
    by_cases c5 : t167 = 45
    · rw [if_pos c5] at H
      have c5b0 : (t167 == 45) = true := beq_iff_eq.mpr c5
      have c5b1 : (t167 != 45) = false := bne_eq_false_iff_eq.mpr c5
      clear c5
      (first | rw [c5b0] | (simp only [i64_w, i32_w]; rw [c5b0]) | skip)
      have H' := Aside0.mk H
      clear H
      obtain ⟨HGz6, hgz6⟩ := HI0.out
      have hcz6_0 := cellS45_0 HGz6
      have hcz6_1 := cellS45_1 HGz6
      have hcz6_2 := cellS45_2 HGz6
      have hfz6_0 := blk_frozen HGz6 0
      have hfz6_1 := blk_frozen HGz6 1
      have hfz6_2 := blk_frozen HGz6 2
      clear HGz6 hgz6
      go_wp2
      go_meet
      case rel => exact ⟨_, (wrap64 (t169 + 1)), H', ⟨by first | omega | exact Nat.le_refl _⟩, ⟨by repeat (first | (with_reducible first | exact HI0.out | apply IsS45.alloc | apply IsS45.drewN | apply IsS45.drew | apply IsS45.set_0 | apply IsS45.set_1 | apply IsS45.set_2) | exact HI0.out)⟩, ⟨by repeat (first | (with_reducible first | exact HK.out | apply KeepBut.set_ | apply keep_drewN | apply keep_drew | apply keep_alloc) | exact HK.out)⟩, ⟨by repeat (first | (with_reducible first | exact HB.out | apply below_alloc | apply pw_below_drewN | apply below_drew1 | refine below_set ?_ (IsS45.ge HI0.out)) | exact HB.out)⟩⟩
    · rw [if_neg c5] at H
      have c5b0 : (t167 == 45) = false := beq_eq_false_iff_ne.mpr c5
      have c5b1 : (t167 != 45) = true := bne_iff_ne.mpr c5
      (first | rw [c5b0] | (simp only [i64_w, i32_w]; rw [c5b0]) | skip)
      have H' := Aside0.mk H
      clear H
      go_wp2
      go_meet
      case rel => exact ⟨_, (t169), H', ⟨by first | omega | exact Nat.le_refl _⟩, ⟨by repeat (first | (with_reducible first | exact HI0.out | apply IsS45.alloc | apply IsS45.drewN | apply IsS45.drew | apply IsS45.set_0 | apply IsS45.set_1 | apply IsS45.set_2) | exact HI0.out)⟩, ⟨by repeat (first | (with_reducible first | exact HK.out | apply KeepBut.set_ | apply keep_drewN | apply keep_drew | apply keep_alloc) | exact HK.out)⟩, ⟨by repeat (first | (with_reducible first | exact HB.out | apply below_alloc | apply pw_below_drewN | apply below_drew1 | refine below_set ?_ (IsS45.ge HI0.out)) | exact HB.out)⟩⟩
  case rest =>
    clear HC3
    try clear c2
    try clear p2
    try clear c5
    try clear c5b0
    try clear c5b1
    try clear p6
    try clear hcz6_0
    try clear hcz6_1
    try clear hcz6_2
    try clear hfz6_0
    try clear hfz6_1
    try clear hfz6_2
    obtain ⟨kq, x1001_2, HA, HJ2, HI0, HK, HB⟩ := hcut
    cases kq with
    | zero => exact absurd HA.out (by simp [spec_reading_number.j0])
    | succ kj2 =>
      have H := HA.out
      clear HA
      simp only [spec_reading_number.j0] at H
      replace H := Option.bind_eq_some_iff.mp H
      obtain ⟨⟨t171, t172, t173, t174⟩, A70, H⟩ := H
      replace H : (if t171 = 48 then (spec_reading_number.j1 kj2 t172 (wrap64 (t173 + 1)) t174) else ((spec_reading_digits.f kj2 t172 t173 t174).bind fun bt175 => (spec_reading_number.j1 kj2 bt175.1 bt175.2.1 bt175.2.2))) = some (r1, r2, r3) := H
      have A7 := Aside0.mk A70
      clear A70
      have HC8 := Aside0.mk H
      clear H
      go_upto_if 14 with (first | ((with_reducible refine gate_callee (f := 25) rfl ?_); refine goesL_ (some 13) rfl rfl Tryd.func25 (by kernel_rfl) rfl #[.pointer (some ⟨g, 0, none⟩)] rfl (by (try simp only [List.map_toArray, List.map_cons, List.map_nil]); first | done | rfl | (simp only [List.length_drop, List.length_take]; rfl)) ?_; (with_reducible refine (spec_reading_next.calls g t168 x1001_2 t170 t171 t172 t173 t174 w0 _ ?side1 ?side2 A7.out).mono ?_); (case side1 => repeat (first | (with_reducible first | exact HI0.out | apply IsS45.alloc | apply IsS45.drewN | apply IsS45.drew | apply IsS45.set_0 | apply IsS45.set_1 | apply IsS45.set_2) | exact HI0.out)); (case side2 => repeat (first | (with_reducible first | exact HB.out | apply below_alloc | apply pw_below_drewN | apply below_drew1 | refine below_set ?_ (IsS45.ge HI0.out)) | exact HB.out)); rintro e w9 ⟨rfl, hi, hb, hk⟩; refine ⟨_, rfl, ?_⟩; have n0_ := Aside0.mk (KeepBut.trans (by repeat (first | (with_reducible first | exact HK.out | apply KeepBut.set_ | apply keep_drewN | apply keep_drew | apply keep_alloc) | exact HK.out)) hk (.inl rfl)); have n1_ := Aside0.mk (hb); have n2_ := Aside0.mk (hi); clear HK; clear HB; clear HI0; have HK := n0_; have HB := n1_; have HI0 := n2_; clear n0_ n1_ n2_; (try clear hb); (try clear hb2); (try clear hk); (try clear hi)))
      (try simp only [Act.put, List.setIfInBounds_toArray, List.set_cons_zero, List.set_cons_succ])
      go_cut [] (fun wc => ∃ (kq : Nat) (x1000_7 : ByteArray) (x1001_7 : Int) (x1002_7 : Bool), Aside0 (spec_reading_number.j1 kq x1000_7 x1001_7 x1002_7 = some (r1, r2, r3)) ∧ Aside0 (kq ≤ kj2) ∧ Aside0 (IsS45 w0 wc g x1000_7 x1001_7 x1002_7) ∧ Aside0 (KeepBut w wc g none) ∧ Aside0 (Below w0.heap.size w0 wc))
      case first =>
        have H := HC8.out
        clear HC8
        by_cases c10 : t171 = 48
        · rw [if_pos c10] at H
          have c10b0 : (t171 == 48) = true := beq_iff_eq.mpr c10
          have c10b1 : (t171 != 48) = false := bne_eq_false_iff_eq.mpr c10
          clear c10
          (first | rw [c10b0] | (simp only [i64_w, i32_w]; rw [c10b0]) | skip)
          have H' := Aside0.mk H
          clear H
          obtain ⟨HGz11, hgz11⟩ := HI0.out
          have hcz11_0 := cellS45_0 HGz11
          have hcz11_1 := cellS45_1 HGz11
          have hcz11_2 := cellS45_2 HGz11
          have hfz11_0 := blk_frozen HGz11 0
          have hfz11_1 := blk_frozen HGz11 1
          have hfz11_2 := blk_frozen HGz11 2
          clear HGz11 hgz11
          go_wp2
          go_meet
          case rel => exact ⟨_, (t172), (wrap64 (t173 + 1)), (t174), H', ⟨by have := HJ2.out; first | omega | exact Nat.le_refl _⟩, ⟨by repeat (first | (with_reducible first | exact HI0.out | apply IsS45.alloc | apply IsS45.drewN | apply IsS45.drew | apply IsS45.set_0 | apply IsS45.set_1 | apply IsS45.set_2) | exact HI0.out)⟩, ⟨by repeat (first | (with_reducible first | exact HK.out | apply KeepBut.set_ | apply keep_drewN | apply keep_drew | apply keep_alloc) | exact HK.out)⟩, ⟨by repeat (first | (with_reducible first | exact HB.out | apply below_alloc | apply pw_below_drewN | apply below_drew1 | refine below_set ?_ (IsS45.ge HI0.out)) | exact HB.out)⟩⟩
        · rw [if_neg c10] at H
          have c10b0 : (t171 == 48) = false := beq_eq_false_iff_ne.mpr c10
          have c10b1 : (t171 != 48) = true := bne_iff_ne.mpr c10
          (first | rw [c10b0] | (simp only [i64_w, i32_w]; rw [c10b0]) | skip)
          replace H := Option.bind_eq_some_iff.mp H
          obtain ⟨⟨t175, t176, t177⟩, A120, H⟩ := H
          replace H : (spec_reading_number.j1 kj2 t175 t176 t177) = some (r1, r2, r3) := H
          have A12 := Aside0.mk A120
          clear A120
          have H' := Aside0.mk H
          clear H
          go_wp2_with (first | ((with_reducible refine gate_callee (f := 43) rfl ?_); refine goesL_ (some 23) rfl rfl Tryd.func43 (by kernel_rfl) rfl #[.pointer (some ⟨g, 0, none⟩)] rfl (by (try simp only [List.map_toArray, List.map_cons, List.map_nil]); first | done | rfl | (simp only [List.length_drop, List.length_take]; rfl)) ?_; (with_reducible refine (spec_reading_digits.calls kj2 g t172 t173 t174 t175 t176 t177 w0 _ ?side1 ?side2 A12.out).mono ?_); (case side1 => repeat (first | (with_reducible first | exact HI0.out | apply IsS45.alloc | apply IsS45.drewN | apply IsS45.drew | apply IsS45.set_0 | apply IsS45.set_1 | apply IsS45.set_2) | exact HI0.out)); (case side2 => repeat (first | (with_reducible first | exact HB.out | apply below_alloc | apply pw_below_drewN | apply below_drew1 | refine below_set ?_ (IsS45.ge HI0.out)) | exact HB.out)); rintro e w13 ⟨rfl, hi, hb, hk⟩; refine ⟨_, rfl, ?_⟩; have n0_ := Aside0.mk (KeepBut.trans (by repeat (first | (with_reducible first | exact HK.out | apply KeepBut.set_ | apply keep_drewN | apply keep_drew | apply keep_alloc) | exact HK.out)) hk (.inl rfl)); have n1_ := Aside0.mk (hb); have n2_ := Aside0.mk (hi); clear HK; clear HB; clear HI0; have HK := n0_; have HB := n1_; have HI0 := n2_; clear n0_ n1_ n2_; (try clear hb); (try clear hb2); (try clear hk); (try clear hi)))
          go_meet
          case rel => exact ⟨_, (t175), (t176), (t177), H', ⟨by have := HJ2.out; first | omega | exact Nat.le_refl _⟩, ⟨by repeat (first | (with_reducible first | exact HI0.out | apply IsS45.alloc | apply IsS45.drewN | apply IsS45.drew | apply IsS45.set_0 | apply IsS45.set_1 | apply IsS45.set_2) | exact HI0.out)⟩, ⟨by repeat (first | (with_reducible first | exact HK.out | apply KeepBut.set_ | apply keep_drewN | apply keep_drew | apply keep_alloc) | exact HK.out)⟩, ⟨by repeat (first | (with_reducible first | exact HB.out | apply below_alloc | apply pw_below_drewN | apply below_drew1 | refine below_set ?_ (IsS45.ge HI0.out)) | exact HB.out)⟩⟩
      case rest =>
        clear HC8
        try clear c1
        try clear c2
        try clear p2
        try clear c4
        try clear c5
        try clear c5b0
        try clear c5b1
        try clear p6
        try clear c10
        try clear c10b0
        try clear c10b1
        try clear hcz11_0
        try clear hcz11_1
        try clear hcz11_2
        try clear hcz6_0
        try clear hcz6_1
        try clear hcz6_2
        try clear hfz11_0
        try clear hfz11_1
        try clear hfz11_2
        try clear hfz6_0
        try clear hfz6_1
        try clear hfz6_2
        try clear p2
        try clear p6
        obtain ⟨kq, x1000_7, x1001_7, x1002_7, HA, HJ7, HI0, HK, HB⟩ := hcut
        cases kq with
        | zero => exact absurd HA.out (by simp [spec_reading_number.j1])
        | succ kj7 =>
          have H := HA.out
          clear HA
          simp only [spec_reading_number.j1] at H
          replace H := Option.bind_eq_some_iff.mp H
          obtain ⟨⟨t178, t179, t180, t181⟩, A140, H⟩ := H
          replace H : (if t178 = 46 then ((spec_reading_digits.f kj7 t179 (wrap64 (t180 + 1)) t181).bind fun bt182 => (spec_reading_number.j2 kj7 bt182.1 bt182.2.1 bt182.2.2)) else (spec_reading_number.j2 kj7 t179 t180 t181)) = some (r1, r2, r3) := H
          have A14 := Aside0.mk A140
          clear A140
          have HC15 := Aside0.mk H
          clear H
          go_upto_if 26 with (first | ((with_reducible refine gate_callee (f := 25) rfl ?_); refine goesL_ (some 25) rfl rfl Tryd.func25 (by kernel_rfl) rfl #[.pointer (some ⟨g, 0, none⟩)] rfl (by (try simp only [List.map_toArray, List.map_cons, List.map_nil]); first | done | rfl | (simp only [List.length_drop, List.length_take]; rfl)) ?_; (with_reducible refine (spec_reading_next.calls g x1000_7 x1001_7 x1002_7 t178 t179 t180 t181 w0 _ ?side1 ?side2 A14.out).mono ?_); (case side1 => repeat (first | (with_reducible first | exact HI0.out | apply IsS45.alloc | apply IsS45.drewN | apply IsS45.drew | apply IsS45.set_0 | apply IsS45.set_1 | apply IsS45.set_2) | exact HI0.out)); (case side2 => repeat (first | (with_reducible first | exact HB.out | apply below_alloc | apply pw_below_drewN | apply below_drew1 | refine below_set ?_ (IsS45.ge HI0.out)) | exact HB.out)); rintro e w16 ⟨rfl, hi, hb, hk⟩; refine ⟨_, rfl, ?_⟩; have n0_ := Aside0.mk (KeepBut.trans (by repeat (first | (with_reducible first | exact HK.out | apply KeepBut.set_ | apply keep_drewN | apply keep_drew | apply keep_alloc) | exact HK.out)) hk (.inl rfl)); have n1_ := Aside0.mk (hb); have n2_ := Aside0.mk (hi); clear HK; clear HB; clear HI0; have HK := n0_; have HB := n1_; have HI0 := n2_; clear n0_ n1_ n2_; (try clear hb); (try clear hb2); (try clear hk); (try clear hi)))
          (try simp only [Act.put, List.setIfInBounds_toArray, List.set_cons_zero, List.set_cons_succ])
          go_cut [] (fun wc => ∃ (kq : Nat) (x1000_14 : ByteArray) (x1001_14 : Int) (x1002_14 : Bool), Aside0 (spec_reading_number.j2 kq x1000_14 x1001_14 x1002_14 = some (r1, r2, r3)) ∧ Aside0 (kq ≤ kj7) ∧ Aside0 (IsS45 w0 wc g x1000_14 x1001_14 x1002_14) ∧ Aside0 (KeepBut w wc g none) ∧ Aside0 (Below w0.heap.size w0 wc))
          case first =>
            have H := HC15.out
            clear HC15
            by_cases c17 : t178 = 46
            · rw [if_pos c17] at H
              have c17b0 : (t178 == 46) = true := beq_iff_eq.mpr c17
              have c17b1 : (t178 != 46) = false := bne_eq_false_iff_eq.mpr c17
              clear c17
              (first | rw [c17b0] | (simp only [i64_w, i32_w]; rw [c17b0]) | skip)
              replace H := Option.bind_eq_some_iff.mp H
              obtain ⟨⟨t182, t183, t184⟩, A180, H⟩ := H
              replace H : (spec_reading_number.j2 kj7 t182 t183 t184) = some (r1, r2, r3) := H
              have A18 := Aside0.mk A180
              clear A180
              have H' := Aside0.mk H
              clear H
              obtain ⟨HGz19, hgz19⟩ := HI0.out
              have hcz19_0 := cellS45_0 HGz19
              have hcz19_1 := cellS45_1 HGz19
              have hcz19_2 := cellS45_2 HGz19
              have hfz19_0 := blk_frozen HGz19 0
              have hfz19_1 := blk_frozen HGz19 1
              have hfz19_2 := blk_frozen HGz19 2
              clear HGz19 hgz19
              go_wp2_with (first | ((with_reducible refine gate_callee (f := 43) rfl ?_); refine goesL_ (some 35) rfl rfl Tryd.func43 (by kernel_rfl) rfl #[.pointer (some ⟨g, 0, none⟩)] rfl (by (try simp only [List.map_toArray, List.map_cons, List.map_nil]); first | done | rfl | (simp only [List.length_drop, List.length_take]; rfl)) ?_; (with_reducible refine (spec_reading_digits.calls kj7 g t179 (wrap64 (t180 + 1)) t181 t182 t183 t184 w0 _ ?side1 ?side2 A18.out).mono ?_); (case side1 => repeat (first | (with_reducible first | exact HI0.out | apply IsS45.alloc | apply IsS45.drewN | apply IsS45.drew | apply IsS45.set_0 | apply IsS45.set_1 | apply IsS45.set_2) | exact HI0.out)); (case side2 => repeat (first | (with_reducible first | exact HB.out | apply below_alloc | apply pw_below_drewN | apply below_drew1 | refine below_set ?_ (IsS45.ge HI0.out)) | exact HB.out)); rintro e w20 ⟨rfl, hi, hb, hk⟩; refine ⟨_, rfl, ?_⟩; have n0_ := Aside0.mk (KeepBut.trans (by repeat (first | (with_reducible first | exact HK.out | apply KeepBut.set_ | apply keep_drewN | apply keep_drew | apply keep_alloc) | exact HK.out)) hk (.inl rfl)); have n1_ := Aside0.mk (hb); have n2_ := Aside0.mk (hi); clear HK; clear HB; clear HI0; have HK := n0_; have HB := n1_; have HI0 := n2_; clear n0_ n1_ n2_; (try clear hb); (try clear hb2); (try clear hk); (try clear hi)))
              go_meet
              case rel => exact ⟨_, (t182), (t183), (t184), H', ⟨by have := HJ2.out; have := HJ7.out; first | omega | exact Nat.le_refl _⟩, ⟨by repeat (first | (with_reducible first | exact HI0.out | apply IsS45.alloc | apply IsS45.drewN | apply IsS45.drew | apply IsS45.set_0 | apply IsS45.set_1 | apply IsS45.set_2) | exact HI0.out)⟩, ⟨by repeat (first | (with_reducible first | exact HK.out | apply KeepBut.set_ | apply keep_drewN | apply keep_drew | apply keep_alloc) | exact HK.out)⟩, ⟨by repeat (first | (with_reducible first | exact HB.out | apply below_alloc | apply pw_below_drewN | apply below_drew1 | refine below_set ?_ (IsS45.ge HI0.out)) | exact HB.out)⟩⟩
            · rw [if_neg c17] at H
              have c17b0 : (t178 == 46) = false := beq_eq_false_iff_ne.mpr c17
              have c17b1 : (t178 != 46) = true := bne_iff_ne.mpr c17
              (first | rw [c17b0] | (simp only [i64_w, i32_w]; rw [c17b0]) | skip)
              have H' := Aside0.mk H
              clear H
              go_wp2
              go_meet
              case rel => exact ⟨_, (t179), (t180), (t181), H', ⟨by have := HJ2.out; have := HJ7.out; first | omega | exact Nat.le_refl _⟩, ⟨by repeat (first | (with_reducible first | exact HI0.out | apply IsS45.alloc | apply IsS45.drewN | apply IsS45.drew | apply IsS45.set_0 | apply IsS45.set_1 | apply IsS45.set_2) | exact HI0.out)⟩, ⟨by repeat (first | (with_reducible first | exact HK.out | apply KeepBut.set_ | apply keep_drewN | apply keep_drew | apply keep_alloc) | exact HK.out)⟩, ⟨by repeat (first | (with_reducible first | exact HB.out | apply below_alloc | apply pw_below_drewN | apply below_drew1 | refine below_set ?_ (IsS45.ge HI0.out)) | exact HB.out)⟩⟩
          case rest =>
            clear HC15
            try clear c1
            try clear c2
            try clear p2
            try clear c4
            try clear c5
            try clear c5b0
            try clear c5b1
            try clear p6
            try clear c10
            try clear c10b0
            try clear c10b1
            try clear c17
            try clear c17b0
            try clear c17b1
            try clear hcz11_0
            try clear hcz11_1
            try clear hcz11_2
            try clear hcz19_0
            try clear hcz19_1
            try clear hcz19_2
            try clear hcz6_0
            try clear hcz6_1
            try clear hcz6_2
            try clear hfz11_0
            try clear hfz11_1
            try clear hfz11_2
            try clear hfz19_0
            try clear hfz19_1
            try clear hfz19_2
            try clear hfz6_0
            try clear hfz6_1
            try clear hfz6_2
            try clear p2
            try clear p6
            obtain ⟨kq, x1000_14, x1001_14, x1002_14, HA, HJ14, HI0, HK, HB⟩ := hcut
            cases kq with
            | zero => exact absurd HA.out (by simp [spec_reading_number.j2])
            | succ kj14 =>
              have H := HA.out
              clear HA
              simp only [spec_reading_number.j2] at H
              have HC21 := Aside0.mk H
              clear H
              go_upto_region 8 with (fail)
              go_cut [43] (fun v43 wc => ∃ (kq : Nat) (x43_20 : Bool) (x1000_20 : ByteArray) (x1001_20 : Int) (x1002_20 : Bool), v43 = .bool x43_20 ∧ Aside0 (spec_reading_number.j3 kq x43_20 x1000_20 x1001_20 x1002_20 = some (r1, r2, r3)) ∧ Aside0 (kq ≤ kj14) ∧ Aside0 (IsS45 w0 wc g x1000_20 x1001_20 x1002_20) ∧ Aside0 (KeepBut w wc g none) ∧ Aside0 (Below w0.heap.size w0 wc))
              case first =>
                have H := HC21.out
                clear HC21
                replace H := Option.bind_eq_some_iff.mp H
                obtain ⟨⟨t185, t186, t187, t188⟩, A220, H⟩ := H
                replace H : (if t185 = 101 then (spec_reading_number.j3 kj14 true t186 t187 t188) else ((spec_reading_next.f t186 t187 t188).bind fun bt189 => (spec_reading_number.j3 kj14 (bt189.1 == 69) bt189.2.1 bt189.2.2.1 bt189.2.2.2))) = some (r1, r2, r3) := H
                have A22 := Aside0.mk A220
                clear A220
                by_cases c23 : t185 = 101
                · rw [if_pos c23] at H
                  have c23b0 : (t185 == 101) = true := beq_iff_eq.mpr c23
                  have c23b1 : (t185 != 101) = false := bne_eq_false_iff_eq.mpr c23
                  clear c23
                  (first | rw [c23b0] | (simp only [i64_w, i32_w]; rw [c23b0]) | skip)
                  have H' := Aside0.mk H
                  clear H
                  go_wp2_with (first | ((with_reducible refine gate_callee (f := 25) rfl ?_); refine goesL_ (some 37) rfl rfl Tryd.func25 (by kernel_rfl) rfl #[.pointer (some ⟨g, 0, none⟩)] rfl (by (try simp only [List.map_toArray, List.map_cons, List.map_nil]); first | done | rfl | (simp only [List.length_drop, List.length_take]; rfl)) ?_; (with_reducible refine (spec_reading_next.calls g x1000_14 x1001_14 x1002_14 t185 t186 t187 t188 w0 _ ?side1 ?side2 A22.out).mono ?_); (case side1 => repeat (first | (with_reducible first | exact HI0.out | apply IsS45.alloc | apply IsS45.drewN | apply IsS45.drew | apply IsS45.set_0 | apply IsS45.set_1 | apply IsS45.set_2) | exact HI0.out)); (case side2 => repeat (first | (with_reducible first | exact HB.out | apply below_alloc | apply pw_below_drewN | apply below_drew1 | refine below_set ?_ (IsS45.ge HI0.out)) | exact HB.out)); rintro e w24 ⟨rfl, hi, hb, hk⟩; refine ⟨_, rfl, ?_⟩; have n0_ := Aside0.mk (KeepBut.trans (by repeat (first | (with_reducible first | exact HK.out | apply KeepBut.set_ | apply keep_drewN | apply keep_drew | apply keep_alloc) | exact HK.out)) hk (.inl rfl)); have n1_ := Aside0.mk (hb); have n2_ := Aside0.mk (hi); clear HK; clear HB; clear HI0; have HK := n0_; have HB := n1_; have HI0 := n2_; clear n0_ n1_ n2_; (try clear hb); (try clear hb2); (try clear hk); (try clear hi)))
                  go_meet
                  case rel => exact ⟨_, (true), (t186), (t187), (t188), (by first | rfl | (simp; done) | (simp [*]; done)), H', ⟨by have := HJ2.out; have := HJ7.out; have := HJ14.out; first | omega | exact Nat.le_refl _⟩, ⟨by repeat (first | (with_reducible first | exact HI0.out | apply IsS45.alloc | apply IsS45.drewN | apply IsS45.drew | apply IsS45.set_0 | apply IsS45.set_1 | apply IsS45.set_2) | exact HI0.out)⟩, ⟨by repeat (first | (with_reducible first | exact HK.out | apply KeepBut.set_ | apply keep_drewN | apply keep_drew | apply keep_alloc) | exact HK.out)⟩, ⟨by repeat (first | (with_reducible first | exact HB.out | apply below_alloc | apply pw_below_drewN | apply below_drew1 | refine below_set ?_ (IsS45.ge HI0.out)) | exact HB.out)⟩⟩
                · rw [if_neg c23] at H
                  have c23b0 : (t185 == 101) = false := beq_eq_false_iff_ne.mpr c23
                  have c23b1 : (t185 != 101) = true := bne_iff_ne.mpr c23
                  (first | rw [c23b0] | (simp only [i64_w, i32_w]; rw [c23b0]) | skip)
                  replace H := Option.bind_eq_some_iff.mp H
                  obtain ⟨⟨t189, t190, t191, t192⟩, A250, H⟩ := H
                  replace H : (spec_reading_number.j3 kj14 (t189 == 69) t190 t191 t192) = some (r1, r2, r3) := H
                  have A25 := Aside0.mk A250
                  clear A250
                  have H' := Aside0.mk H
                  clear H
                  go_wp2_with (first | ((with_reducible refine gate_callee (f := 25) rfl ?_); refine goesL_ (some 37) rfl rfl Tryd.func25 (by kernel_rfl) rfl #[.pointer (some ⟨g, 0, none⟩)] rfl (by (try simp only [List.map_toArray, List.map_cons, List.map_nil]); first | done | rfl | (simp only [List.length_drop, List.length_take]; rfl)) ?_; (with_reducible refine (spec_reading_next.calls g x1000_14 x1001_14 x1002_14 t185 t186 t187 t188 w0 _ ?side1 ?side2 A22.out).mono ?_); (case side1 => repeat (first | (with_reducible first | exact HI0.out | apply IsS45.alloc | apply IsS45.drewN | apply IsS45.drew | apply IsS45.set_0 | apply IsS45.set_1 | apply IsS45.set_2) | exact HI0.out)); (case side2 => repeat (first | (with_reducible first | exact HB.out | apply below_alloc | apply pw_below_drewN | apply below_drew1 | refine below_set ?_ (IsS45.ge HI0.out)) | exact HB.out)); rintro e w26 ⟨rfl, hi, hb, hk⟩; refine ⟨_, rfl, ?_⟩; have n0_ := Aside0.mk (KeepBut.trans (by repeat (first | (with_reducible first | exact HK.out | apply KeepBut.set_ | apply keep_drewN | apply keep_drew | apply keep_alloc) | exact HK.out)) hk (.inl rfl)); have n1_ := Aside0.mk (hb); have n2_ := Aside0.mk (hi); clear HK; clear HB; clear HI0; have HK := n0_; have HB := n1_; have HI0 := n2_; clear n0_ n1_ n2_; (try clear hb); (try clear hb2); (try clear hk); (try clear hi)) | (go_at_call 25; (with_reducible refine (spec_reading_next.calls g t186 t187 t188 t189 t190 t191 t192 w0 _ ?side1 ?side2 A25.out).mono ?_); (case side1 => repeat (first | (with_reducible first | exact HI0.out | apply IsS45.alloc | apply IsS45.drewN | apply IsS45.drew | apply IsS45.set_0 | apply IsS45.set_1 | apply IsS45.set_2) | exact HI0.out)); (case side2 => repeat (first | (with_reducible first | exact HB.out | apply below_alloc | apply pw_below_drewN | apply below_drew1 | refine below_set ?_ (IsS45.ge HI0.out)) | exact HB.out)); rintro e w27 ⟨rfl, hi, hb, hk⟩; have n0_ := Aside0.mk (KeepBut.trans (by repeat (first | (with_reducible first | exact HK.out | apply KeepBut.set_ | apply keep_drewN | apply keep_drew | apply keep_alloc) | exact HK.out)) hk (.inl rfl)); have n1_ := Aside0.mk (hb); have n2_ := Aside0.mk (hi); clear HK; clear HB; clear HI0; have HK := n0_; have HB := n1_; have HI0 := n2_; clear n0_ n1_ n2_; (try clear hb); (try clear hb2); (try clear hk); (try clear hi)))
                  go_meet
                  case rel => exact ⟨_, ((t189 == 69)), (t190), (t191), (t192), (by first | rfl | (simp; done) | (simp [*]; done)), H', ⟨by have := HJ2.out; have := HJ7.out; have := HJ14.out; first | omega | exact Nat.le_refl _⟩, ⟨by repeat (first | (with_reducible first | exact HI0.out | apply IsS45.alloc | apply IsS45.drewN | apply IsS45.drew | apply IsS45.set_0 | apply IsS45.set_1 | apply IsS45.set_2) | exact HI0.out)⟩, ⟨by repeat (first | (with_reducible first | exact HK.out | apply KeepBut.set_ | apply keep_drewN | apply keep_drew | apply keep_alloc) | exact HK.out)⟩, ⟨by repeat (first | (with_reducible first | exact HB.out | apply below_alloc | apply pw_below_drewN | apply below_drew1 | refine below_set ?_ (IsS45.ge HI0.out)) | exact HB.out)⟩⟩
              case rest =>
                clear HC21
                try clear c1
                try clear c2
                try clear p2
                try clear c4
                try clear c5
                try clear c5b0
                try clear c5b1
                try clear p6
                try clear c10
                try clear c10b0
                try clear c10b1
                try clear c17
                try clear c17b0
                try clear c17b1
                try clear c23
                try clear c23b0
                try clear c23b1
                try clear c25
                try clear hcz11_0
                try clear hcz11_1
                try clear hcz11_2
                try clear hcz19_0
                try clear hcz19_1
                try clear hcz19_2
                try clear hcz6_0
                try clear hcz6_1
                try clear hcz6_2
                try clear hfz11_0
                try clear hfz11_1
                try clear hfz11_2
                try clear hfz19_0
                try clear hfz19_1
                try clear hfz19_2
                try clear hfz6_0
                try clear hfz6_1
                try clear hfz6_2
                try clear p2
                try clear p6
                obtain ⟨kq, x43_20, x1000_20, x1001_20, x1002_20, rfl, HA, HJ20, HI0, HK, HB⟩ := hcut
                cases kq with
                | zero => exact absurd HA.out (by simp [spec_reading_number.j3])
                | succ kj20 =>
                  have H := HA.out
                  clear HA
                  simp only [spec_reading_number.j3] at H
                  by_cases c28 : x43_20 = true
                  · subst c28
                    have H1 : ((spec_reading_next.f x1000_20 (wrap64 (x1001_20 + 1)) x1002_20).bind fun bt193 => (if bt193.1 = 43 then ((spec_reading_digits.f kj20 bt193.2.1 (wrap64 (bt193.2.2.1 + 1)) bt193.2.2.2).bind fun bt197 => (some (bt197.1, bt197.2.1, bt197.2.2))) else ((spec_reading_next.f bt193.2.1 bt193.2.2.1 bt193.2.2.2).bind fun bt200 => (if bt200.1 = 45 then ((spec_reading_digits.f kj20 bt200.2.1 (wrap64 (bt200.2.2.1 + 1)) bt200.2.2.2).bind fun bt204 => (some (bt204.1, bt204.2.1, bt204.2.2))) else ((spec_reading_digits.f kj20 bt200.2.1 bt200.2.2.1 bt200.2.2.2).bind fun bt207 => (some (bt207.1, bt207.2.1, bt207.2.2))))))) = some (r1, r2, r3) := by rw [if_pos rfl] at H; exact H
                    clear H
                    have H := H1
                    clear H1
                    replace H := Option.bind_eq_some_iff.mp H
                    obtain ⟨⟨t193, t194, t195, t196⟩, A290, H⟩ := H
                    replace H : (if t193 = 43 then ((spec_reading_digits.f kj20 t194 (wrap64 (t195 + 1)) t196).bind fun bt197 => (some (bt197.1, bt197.2.1, bt197.2.2))) else ((spec_reading_next.f t194 t195 t196).bind fun bt200 => (if bt200.1 = 45 then ((spec_reading_digits.f kj20 bt200.2.1 (wrap64 (bt200.2.2.1 + 1)) bt200.2.2.2).bind fun bt204 => (some (bt204.1, bt204.2.1, bt204.2.2))) else ((spec_reading_digits.f kj20 bt200.2.1 bt200.2.2.1 bt200.2.2.2).bind fun bt207 => (some (bt207.1, bt207.2.1, bt207.2.2)))))) = some (r1, r2, r3) := H
                    have A29 := Aside0.mk A290
                    clear A290
                    by_cases c30 : t193 = 43
                    · rw [if_pos c30] at H
                      have c30b0 : (t193 == 43) = true := beq_iff_eq.mpr c30
                      have c30b1 : (t193 != 43) = false := bne_eq_false_iff_eq.mpr c30
                      clear c30
                      replace H := Option.bind_eq_some_iff.mp H
                      obtain ⟨⟨t197, t198, t199⟩, A310, H⟩ := H
                      replace H : (some (t197, t198, t199)) = some (r1, r2, r3) := H
                      have A31 := Aside0.mk A310
                      clear A310
                      simp only [Option.some.injEq, Prod.mk.injEq] at H
                      obtain ⟨rfl, rfl, rfl⟩ := H
                      obtain ⟨HGz32, hgz32⟩ := HI0.out
                      have hcz32_0 := cellS45_0 HGz32
                      have hcz32_1 := cellS45_1 HGz32
                      have hcz32_2 := cellS45_2 HGz32
                      have hfz32_0 := blk_frozen HGz32 0
                      have hfz32_1 := blk_frozen HGz32 1
                      have hfz32_2 := blk_frozen HGz32 2
                      clear HGz32 hgz32
                      go_wp2_with (first | ((with_reducible refine gate_callee (f := 25) rfl ?_); refine goesL_ (some 52) rfl rfl Tryd.func25 (by kernel_rfl) rfl #[.pointer (some ⟨g, 0, none⟩)] rfl (by (try simp only [List.map_toArray, List.map_cons, List.map_nil]); first | done | rfl | (simp only [List.length_drop, List.length_take]; rfl)) ?_; (with_reducible refine (spec_reading_next.calls g x1000_20 (wrap64 (x1001_20 + 1)) x1002_20 t193 t194 t195 t196 w0 _ ?side1 ?side2 A29.out).mono ?_); (case side1 => repeat (first | (with_reducible first | exact HI0.out | apply IsS45.alloc | apply IsS45.drewN | apply IsS45.drew | apply IsS45.set_0 | apply IsS45.set_1 | apply IsS45.set_2) | exact HI0.out)); (case side2 => repeat (first | (with_reducible first | exact HB.out | apply below_alloc | apply pw_below_drewN | apply below_drew1 | refine below_set ?_ (IsS45.ge HI0.out)) | exact HB.out)); rintro e w33 ⟨rfl, hi, hb, hk⟩; refine ⟨_, rfl, ?_⟩; have n0_ := Aside0.mk (KeepBut.trans (by repeat (first | (with_reducible first | exact HK.out | apply KeepBut.set_ | apply keep_drewN | apply keep_drew | apply keep_alloc) | exact HK.out)) hk (.inl rfl)); have n1_ := Aside0.mk (hb); have n2_ := Aside0.mk (hi); clear HK; clear HB; clear HI0; have HK := n0_; have HB := n1_; have HI0 := n2_; clear n0_ n1_ n2_; (try clear hb); (try clear hb2); (try clear hk); (try clear hi); obtain ⟨HGz34, hgz34⟩ := HI0.out; have hcz34_0 := cellS45_0 HGz34; have hcz34_1 := cellS45_1 HGz34; have hcz34_2 := cellS45_2 HGz34; have hfz34_0 := blk_frozen HGz34 0; have hfz34_1 := blk_frozen HGz34 1; have hfz34_2 := blk_frozen HGz34 2; clear HGz34 hgz34) | ((with_reducible refine gate_callee (f := 43) rfl ?_); refine goesL_ (some 67) rfl rfl Tryd.func43 (by kernel_rfl) rfl #[.pointer (some ⟨g, 0, none⟩)] rfl (by (try simp only [List.map_toArray, List.map_cons, List.map_nil]); first | done | rfl | (simp only [List.length_drop, List.length_take]; rfl)) ?_; (with_reducible refine (spec_reading_digits.calls kj20 g t194 (wrap64 (t195 + 1)) t196 t197 t198 t199 w0 _ ?side1 ?side2 A31.out).mono ?_); (case side1 => repeat (first | (with_reducible first | exact HI0.out | apply IsS45.alloc | apply IsS45.drewN | apply IsS45.drew | apply IsS45.set_0 | apply IsS45.set_1 | apply IsS45.set_2) | exact HI0.out)); (case side2 => repeat (first | (with_reducible first | exact HB.out | apply below_alloc | apply pw_below_drewN | apply below_drew1 | refine below_set ?_ (IsS45.ge HI0.out)) | exact HB.out)); rintro e w35 ⟨rfl, hi, hb, hk⟩; refine ⟨_, rfl, ?_⟩; have n0_ := Aside0.mk (KeepBut.trans (by repeat (first | (with_reducible first | exact HK.out | apply KeepBut.set_ | apply keep_drewN | apply keep_drew | apply keep_alloc) | exact HK.out)) hk (.inl rfl)); have n1_ := Aside0.mk (hb); have n2_ := Aside0.mk (hi); clear HK; clear HB; clear HI0; have HK := n0_; have HB := n1_; have HI0 := n2_; clear n0_ n1_ n2_; (try clear hb); (try clear hb2); (try clear hk); (try clear hi)))
                      first | go_end0 | ((try simp only [Exit.inBlock, Exit.then]); refine bodyPost_ret (results_none rfl _ _ _) rfl ?_)
                      exact ⟨by first | rfl | (simp [errW_none, errW_some] <;> rfl) | (simp [*, errW_none, errW_some] <;> rfl), by repeat (first | (with_reducible first | exact HI0.out | apply IsS45.alloc | apply IsS45.drewN | apply IsS45.drew | apply IsS45.set_0 | apply IsS45.set_1 | apply IsS45.set_2) | exact HI0.out), by repeat (first | (with_reducible first | exact HB.out | apply below_alloc | apply pw_below_drewN | apply below_drew1 | refine below_set ?_ (IsS45.ge HI0.out)) | exact HB.out), by repeat (first | (with_reducible first | exact HK.out | apply KeepBut.set_ | apply keep_drewN | apply keep_drew | apply keep_alloc) | exact HK.out)⟩
                    · rw [if_neg c30] at H
                      have c30b0 : (t193 == 43) = false := beq_eq_false_iff_ne.mpr c30
                      have c30b1 : (t193 != 43) = true := bne_iff_ne.mpr c30
                      replace H := Option.bind_eq_some_iff.mp H
                      obtain ⟨⟨t200, t201, t202, t203⟩, A360, H⟩ := H
                      replace H : (if t200 = 45 then ((spec_reading_digits.f kj20 t201 (wrap64 (t202 + 1)) t203).bind fun bt204 => (some (bt204.1, bt204.2.1, bt204.2.2))) else ((spec_reading_digits.f kj20 t201 t202 t203).bind fun bt207 => (some (bt207.1, bt207.2.1, bt207.2.2)))) = some (r1, r2, r3) := H
                      have A36 := Aside0.mk A360
                      clear A360
                      by_cases c37 : t200 = 45
                      · rw [if_pos c37] at H
                        have c37b0 : (t200 == 45) = true := beq_iff_eq.mpr c37
                        have c37b1 : (t200 != 45) = false := bne_eq_false_iff_eq.mpr c37
                        clear c37
                        replace H := Option.bind_eq_some_iff.mp H
                        obtain ⟨⟨t204, t205, t206⟩, A380, H⟩ := H
                        replace H : (some (t204, t205, t206)) = some (r1, r2, r3) := H
                        have A38 := Aside0.mk A380
                        clear A380
                        simp only [Option.some.injEq, Prod.mk.injEq] at H
                        obtain ⟨rfl, rfl, rfl⟩ := H
                        obtain ⟨HGz39, hgz39⟩ := HI0.out
                        have hcz39_0 := cellS45_0 HGz39
                        have hcz39_1 := cellS45_1 HGz39
                        have hcz39_2 := cellS45_2 HGz39
                        have hfz39_0 := blk_frozen HGz39 0
                        have hfz39_1 := blk_frozen HGz39 1
                        have hfz39_2 := blk_frozen HGz39 2
                        clear HGz39 hgz39
                        go_wp2_with (first | ((with_reducible refine gate_callee (f := 25) rfl ?_); refine goesL_ (some 52) rfl rfl Tryd.func25 (by kernel_rfl) rfl #[.pointer (some ⟨g, 0, none⟩)] rfl (by (try simp only [List.map_toArray, List.map_cons, List.map_nil]); first | done | rfl | (simp only [List.length_drop, List.length_take]; rfl)) ?_; (with_reducible refine (spec_reading_next.calls g x1000_20 (wrap64 (x1001_20 + 1)) x1002_20 t193 t194 t195 t196 w0 _ ?side1 ?side2 A29.out).mono ?_); (case side1 => repeat (first | (with_reducible first | exact HI0.out | apply IsS45.alloc | apply IsS45.drewN | apply IsS45.drew | apply IsS45.set_0 | apply IsS45.set_1 | apply IsS45.set_2) | exact HI0.out)); (case side2 => repeat (first | (with_reducible first | exact HB.out | apply below_alloc | apply pw_below_drewN | apply below_drew1 | refine below_set ?_ (IsS45.ge HI0.out)) | exact HB.out)); rintro e w40 ⟨rfl, hi, hb, hk⟩; refine ⟨_, rfl, ?_⟩; have n0_ := Aside0.mk (KeepBut.trans (by repeat (first | (with_reducible first | exact HK.out | apply KeepBut.set_ | apply keep_drewN | apply keep_drew | apply keep_alloc) | exact HK.out)) hk (.inl rfl)); have n1_ := Aside0.mk (hb); have n2_ := Aside0.mk (hi); clear HK; clear HB; clear HI0; have HK := n0_; have HB := n1_; have HI0 := n2_; clear n0_ n1_ n2_; (try clear hb); (try clear hb2); (try clear hk); (try clear hi)) | (go_at_call 25; (with_reducible refine (spec_reading_next.calls g t194 t195 t196 t200 t201 t202 t203 w0 _ ?side1 ?side2 A36.out).mono ?_); (case side1 => repeat (first | (with_reducible first | exact HI0.out | apply IsS45.alloc | apply IsS45.drewN | apply IsS45.drew | apply IsS45.set_0 | apply IsS45.set_1 | apply IsS45.set_2) | exact HI0.out)); (case side2 => repeat (first | (with_reducible first | exact HB.out | apply below_alloc | apply pw_below_drewN | apply below_drew1 | refine below_set ?_ (IsS45.ge HI0.out)) | exact HB.out)); rintro e w41 ⟨rfl, hi, hb, hk⟩; have n0_ := Aside0.mk (KeepBut.trans (by repeat (first | (with_reducible first | exact HK.out | apply KeepBut.set_ | apply keep_drewN | apply keep_drew | apply keep_alloc) | exact HK.out)) hk (.inl rfl)); have n1_ := Aside0.mk (hb); have n2_ := Aside0.mk (hi); clear HK; clear HB; clear HI0; have HK := n0_; have HB := n1_; have HI0 := n2_; clear n0_ n1_ n2_; (try clear hb); (try clear hb2); (try clear hk); (try clear hi); obtain ⟨HGz42, hgz42⟩ := HI0.out; have hcz42_0 := cellS45_0 HGz42; have hcz42_1 := cellS45_1 HGz42; have hcz42_2 := cellS45_2 HGz42; have hfz42_0 := blk_frozen HGz42 0; have hfz42_1 := blk_frozen HGz42 1; have hfz42_2 := blk_frozen HGz42 2; clear HGz42 hgz42) | ((with_reducible refine gate_callee (f := 43) rfl ?_); refine goesL_ (some 67) rfl rfl Tryd.func43 (by kernel_rfl) rfl #[.pointer (some ⟨g, 0, none⟩)] rfl (by (try simp only [List.map_toArray, List.map_cons, List.map_nil]); first | done | rfl | (simp only [List.length_drop, List.length_take]; rfl)) ?_; (with_reducible refine (spec_reading_digits.calls kj20 g t201 (wrap64 (t202 + 1)) t203 t204 t205 t206 w0 _ ?side1 ?side2 A38.out).mono ?_); (case side1 => repeat (first | (with_reducible first | exact HI0.out | apply IsS45.alloc | apply IsS45.drewN | apply IsS45.drew | apply IsS45.set_0 | apply IsS45.set_1 | apply IsS45.set_2) | exact HI0.out)); (case side2 => repeat (first | (with_reducible first | exact HB.out | apply below_alloc | apply pw_below_drewN | apply below_drew1 | refine below_set ?_ (IsS45.ge HI0.out)) | exact HB.out)); rintro e w43 ⟨rfl, hi, hb, hk⟩; refine ⟨_, rfl, ?_⟩; have n0_ := Aside0.mk (KeepBut.trans (by repeat (first | (with_reducible first | exact HK.out | apply KeepBut.set_ | apply keep_drewN | apply keep_drew | apply keep_alloc) | exact HK.out)) hk (.inl rfl)); have n1_ := Aside0.mk (hb); have n2_ := Aside0.mk (hi); clear HK; clear HB; clear HI0; have HK := n0_; have HB := n1_; have HI0 := n2_; clear n0_ n1_ n2_; (try clear hb); (try clear hb2); (try clear hk); (try clear hi)))
                        first | go_end0 | ((try simp only [Exit.inBlock, Exit.then]); refine bodyPost_ret (results_none rfl _ _ _) rfl ?_)
                        exact ⟨by first | rfl | (simp [errW_none, errW_some] <;> rfl) | (simp [*, errW_none, errW_some] <;> rfl), by repeat (first | (with_reducible first | exact HI0.out | apply IsS45.alloc | apply IsS45.drewN | apply IsS45.drew | apply IsS45.set_0 | apply IsS45.set_1 | apply IsS45.set_2) | exact HI0.out), by repeat (first | (with_reducible first | exact HB.out | apply below_alloc | apply pw_below_drewN | apply below_drew1 | refine below_set ?_ (IsS45.ge HI0.out)) | exact HB.out), by repeat (first | (with_reducible first | exact HK.out | apply KeepBut.set_ | apply keep_drewN | apply keep_drew | apply keep_alloc) | exact HK.out)⟩
                      · rw [if_neg c37] at H
                        have c37b0 : (t200 == 45) = false := beq_eq_false_iff_ne.mpr c37
                        have c37b1 : (t200 != 45) = true := bne_iff_ne.mpr c37
                        replace H := Option.bind_eq_some_iff.mp H
                        obtain ⟨⟨t207, t208, t209⟩, A440, H⟩ := H
                        replace H : (some (t207, t208, t209)) = some (r1, r2, r3) := H
                        have A44 := Aside0.mk A440
                        clear A440
                        simp only [Option.some.injEq, Prod.mk.injEq] at H
                        obtain ⟨rfl, rfl, rfl⟩ := H
                        obtain ⟨HGz45, hgz45⟩ := HI0.out
                        have hcz45_0 := cellS45_0 HGz45
                        have hcz45_1 := cellS45_1 HGz45
                        have hcz45_2 := cellS45_2 HGz45
                        have hfz45_0 := blk_frozen HGz45 0
                        have hfz45_1 := blk_frozen HGz45 1
                        have hfz45_2 := blk_frozen HGz45 2
                        clear HGz45 hgz45
                        go_wp2_with (first | ((with_reducible refine gate_callee (f := 25) rfl ?_); refine goesL_ (some 52) rfl rfl Tryd.func25 (by kernel_rfl) rfl #[.pointer (some ⟨g, 0, none⟩)] rfl (by (try simp only [List.map_toArray, List.map_cons, List.map_nil]); first | done | rfl | (simp only [List.length_drop, List.length_take]; rfl)) ?_; (with_reducible refine (spec_reading_next.calls g x1000_20 (wrap64 (x1001_20 + 1)) x1002_20 t193 t194 t195 t196 w0 _ ?side1 ?side2 A29.out).mono ?_); (case side1 => repeat (first | (with_reducible first | exact HI0.out | apply IsS45.alloc | apply IsS45.drewN | apply IsS45.drew | apply IsS45.set_0 | apply IsS45.set_1 | apply IsS45.set_2) | exact HI0.out)); (case side2 => repeat (first | (with_reducible first | exact HB.out | apply below_alloc | apply pw_below_drewN | apply below_drew1 | refine below_set ?_ (IsS45.ge HI0.out)) | exact HB.out)); rintro e w46 ⟨rfl, hi, hb, hk⟩; refine ⟨_, rfl, ?_⟩; have n0_ := Aside0.mk (KeepBut.trans (by repeat (first | (with_reducible first | exact HK.out | apply KeepBut.set_ | apply keep_drewN | apply keep_drew | apply keep_alloc) | exact HK.out)) hk (.inl rfl)); have n1_ := Aside0.mk (hb); have n2_ := Aside0.mk (hi); clear HK; clear HB; clear HI0; have HK := n0_; have HB := n1_; have HI0 := n2_; clear n0_ n1_ n2_; (try clear hb); (try clear hb2); (try clear hk); (try clear hi)) | (go_at_call 25; (with_reducible refine (spec_reading_next.calls g t194 t195 t196 t200 t201 t202 t203 w0 _ ?side1 ?side2 A36.out).mono ?_); (case side1 => repeat (first | (with_reducible first | exact HI0.out | apply IsS45.alloc | apply IsS45.drewN | apply IsS45.drew | apply IsS45.set_0 | apply IsS45.set_1 | apply IsS45.set_2) | exact HI0.out)); (case side2 => repeat (first | (with_reducible first | exact HB.out | apply below_alloc | apply pw_below_drewN | apply below_drew1 | refine below_set ?_ (IsS45.ge HI0.out)) | exact HB.out)); rintro e w47 ⟨rfl, hi, hb, hk⟩; have n0_ := Aside0.mk (KeepBut.trans (by repeat (first | (with_reducible first | exact HK.out | apply KeepBut.set_ | apply keep_drewN | apply keep_drew | apply keep_alloc) | exact HK.out)) hk (.inl rfl)); have n1_ := Aside0.mk (hb); have n2_ := Aside0.mk (hi); clear HK; clear HB; clear HI0; have HK := n0_; have HB := n1_; have HI0 := n2_; clear n0_ n1_ n2_; (try clear hb); (try clear hb2); (try clear hk); (try clear hi)) | ((with_reducible refine gate_callee (f := 43) rfl ?_); refine goesL_ (some 67) rfl rfl Tryd.func43 (by kernel_rfl) rfl #[.pointer (some ⟨g, 0, none⟩)] rfl (by (try simp only [List.map_toArray, List.map_cons, List.map_nil]); first | done | rfl | (simp only [List.length_drop, List.length_take]; rfl)) ?_; (with_reducible refine (spec_reading_digits.calls kj20 g t201 t202 t203 t207 t208 t209 w0 _ ?side1 ?side2 A44.out).mono ?_); (case side1 => repeat (first | (with_reducible first | exact HI0.out | apply IsS45.alloc | apply IsS45.drewN | apply IsS45.drew | apply IsS45.set_0 | apply IsS45.set_1 | apply IsS45.set_2) | exact HI0.out)); (case side2 => repeat (first | (with_reducible first | exact HB.out | apply below_alloc | apply pw_below_drewN | apply below_drew1 | refine below_set ?_ (IsS45.ge HI0.out)) | exact HB.out)); rintro e w48 ⟨rfl, hi, hb, hk⟩; refine ⟨_, rfl, ?_⟩; have n0_ := Aside0.mk (KeepBut.trans (by repeat (first | (with_reducible first | exact HK.out | apply KeepBut.set_ | apply keep_drewN | apply keep_drew | apply keep_alloc) | exact HK.out)) hk (.inl rfl)); have n1_ := Aside0.mk (hb); have n2_ := Aside0.mk (hi); clear HK; clear HB; clear HI0; have HK := n0_; have HB := n1_; have HI0 := n2_; clear n0_ n1_ n2_; (try clear hb); (try clear hb2); (try clear hk); (try clear hi)))
                        first | go_end0 | ((try simp only [Exit.inBlock, Exit.then]); refine bodyPost_ret (results_none rfl _ _ _) rfl ?_)
                        exact ⟨by first | rfl | (simp [errW_none, errW_some] <;> rfl) | (simp [*, errW_none, errW_some] <;> rfl), by repeat (first | (with_reducible first | exact HI0.out | apply IsS45.alloc | apply IsS45.drewN | apply IsS45.drew | apply IsS45.set_0 | apply IsS45.set_1 | apply IsS45.set_2) | exact HI0.out), by repeat (first | (with_reducible first | exact HB.out | apply below_alloc | apply pw_below_drewN | apply below_drew1 | refine below_set ?_ (IsS45.ge HI0.out)) | exact HB.out), by repeat (first | (with_reducible first | exact HK.out | apply KeepBut.set_ | apply keep_drewN | apply keep_drew | apply keep_alloc) | exact HK.out)⟩
                  · replace c28 := Bool.eq_false_iff.mpr c28
                    subst c28
                    have H1 : (some (x1000_20, x1001_20, x1002_20)) = some (r1, r2, r3) := by rw [if_neg (show ¬ (false = true) by decide)] at H; exact H
                    clear H
                    have H := H1
                    clear H1
                    simp only [Option.some.injEq, Prod.mk.injEq] at H
                    obtain ⟨rfl, rfl, rfl⟩ := H
                    go_wp2
                    first | go_end0 | ((try simp only [Exit.inBlock, Exit.then]); refine bodyPost_ret (results_none rfl _ _ _) rfl ?_)
                    exact ⟨by first | rfl | (simp [errW_none, errW_some] <;> rfl) | (simp [*, errW_none, errW_some] <;> rfl), by repeat (first | (with_reducible first | exact HI0.out | apply IsS45.alloc | apply IsS45.drewN | apply IsS45.drew | apply IsS45.set_0 | apply IsS45.set_1 | apply IsS45.set_2) | exact HI0.out), by repeat (first | (with_reducible first | exact HB.out | apply below_alloc | apply pw_below_drewN | apply below_drew1 | refine below_set ?_ (IsS45.ge HI0.out)) | exact HB.out), by repeat (first | (with_reducible first | exact HK.out | apply KeepBut.set_ | apply keep_drewN | apply keep_drew | apply keep_alloc) | exact HK.out)⟩
end Go.Proofs.YtldfejbmdonaoaaDoor.Sp