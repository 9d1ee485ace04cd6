/- Joined by a program of mine from texts of this claim: Sp6. -/
import Derived.Test.YtldfejbmdonaoaaDoorV4
import Derived.Test.YtldfejbmdonaoaaDoorV5
import Derived.Test.YtldfejbmdonaoaaDoorV8
namespace Go.Proofs.YtldfejbmdonaoaaDoor.Sp
open Go.RowKit YtldfejbmdonaoaaDoorW.PrintWords YtldfejbmdonaoaaDoorW.PrintLast YtldfejbmdonaoaaDoorW.PrintMore
attribute [local go_sem] max2_int min2_int max_two min_two max_three min_three max_four min_four   -- for this text's walks alone
set_option linter.unusedVariables false
set_option linter.unusedSimpArgs false
mutual
def spec_reading_text.l0 : Nat → List Int → Bool → ByteArray → Int → Bool → Option (ByteArray × Bool × ByteArray × Int × Bool)
  | 0, _, _, _, _, _ => none
  | k + 1, x4, x5, x1000, x1001, x1002 => if x1002 = true then (some (strOfNums x4, x5, x1000, x1001, x1002)) else (if x1001 ≥ (x1000.size : Int) then (spec_reading_text.j1 k x4 x5 true x1000 x1001 x1002) else (if 0 ≤ x1001 then (if x1001 < (x1000.size : Int) then (spec_reading_text.j1 k x4 x5 (decide ((bt x1000 x1001) < 32)) x1000 x1001 x1002) else (none)) else (none)))
def spec_reading_text.j1 : Nat → List Int → Bool → Bool → ByteArray → Int → Bool → Option (ByteArray × Bool × ByteArray × Int × Bool)
  | 0, _, _, _, _, _, _ => none
  | k + 1, x4, x5, x38, x1000, x1001, x1002 => if x38 = true then (some (strOfNums x4, x5, x1000, x1001, true)) else (if 0 ≤ x1001 then (if x1001 < (x1000.size : Int) then (if (bt x1000 x1001) = 34 then (some (strOfNums x4, x5, x1000, wrap64 (x1001 + 1), x1002)) else (if (bt x1000 x1001) = 92 then ((spec_reading_escape.f k x1000 (wrap64 (x1001 + 1)) x1002).bind fun bt141 => (if x4.length + bt141.1.size < 140737488355328 then ((some (x4 ++ bytesOf bt141.1 : List Int)).bind fun y146 => (if x5 = true then (spec_reading_text.l0 k y146 bt141.2.1 bt141.2.2.1 bt141.2.2.2.1 bt141.2.2.2.2) else (spec_reading_text.l0 k y146 false bt141.2.2.1 bt141.2.2.2.1 bt141.2.2.2.2))) else (none))) else (if x4.length < 140737488355328 then (spec_reading_text.l0 k (x4 ++ [bt x1000 x1001]) x5 x1000 (wrap64 (x1001 + 1)) x1002) else (none)))) else (none)) else (none))
end
def spec_reading_text.f (k : Nat) (s0_0 : ByteArray) (s0_1 : Int) (s0_2 : Bool) : Option (ByteArray × Bool × ByteArray × Int × Bool) := (spec_reading_take.f s0_0 s0_1 s0_2 34).bind fun bt135 => (spec_reading_text.l0 k (([] : List Int)) true bt135.1 bt135.2.1 bt135.2.2)
theorem grown_set (W : World) (g j : Nat) (u : Value) : W.grownBy (W.setCell ⟨g, j, none⟩ u) (some g) :=
  ⟨rfl, rfl, rfl, by simp [World.setCell], fun k _ hne => Below.heap_setCell _ _ _ _ (fun e => hne (by rw [e]))⟩
theorem text_conv {w0 W : World} {g : Nat} {f0 : ByteArray} {f1 : Int} {f2 : Bool} {b : Nat} {v : Value} {xs : List Int} (hI : IsS45 w0 W g f0 f1 f2) (h : (Kd.int .u8).R 5 W b (fun _ => True) v xs) (m j : Nat) (u : Value) :
    (convert 54 9 v).run Tryd.prog ((W.drewN m).setCell ⟨g, j, none⟩ u) = .ok (.string (strOfNums xs)) ((W.drewN m).setCell ⟨g, j, none⟩ u) :=
  own_string (P := Tryd.prog) Tryd.underlying54 Tryd.underlying5 Tryd.underlying9 (own_other (Kd.own_of_R (Kd.R_drewN h m)) (grown_set (W.drewN m) g j u) (.inr fun e => IsS45.own_ne hI h (by decide) e.symm))
theorem text_conv0 {w0 W : World} {g : Nat} {f0 : ByteArray} {f1 : Int} {f2 : Bool} {b : Nat} {v : Value} {xs : List Int} (hI : IsS45 w0 W g f0 f1 f2) (h : (Kd.int .u8).R 5 W b (fun _ => True) v xs) (j : Nat) (u : Value) :
    (convert 54 9 v).run Tryd.prog (W.setCell ⟨g, j, none⟩ u) = .ok (.string (strOfNums xs)) (W.setCell ⟨g, j, none⟩ u) := text_conv hI h 0 j u
set_option maxHeartbeats 8000000 in
set_option maxRecDepth 100000 in
theorem spec_reading_text.calls (k : Nat) (g : Nat) (s0_0 : ByteArray) (s0_1 : Int) (s0_2 : Bool) (r1 : ByteArray) (r2 : Bool) (r3 : ByteArray) (r4 : Int) (r5 : Bool) (w0 w : World) (hI : IsS45 w0 w g s0_0 s0_1 s0_2) (hB : Below w0.heap.size w0 w) (h : spec_reading_text.f k s0_0 s0_1 s0_2 = some (r1, r2, r3, r4, r5)) :
    Calls Tryd.prog 26 #[.pointer (some ⟨g, 0, none⟩)] w fun e w' => e = .returned (.tuple #[.string r1, .bool r2]) ∧ IsS45 w0 w' g r3 r4 r5 ∧ Below w0.heap.size w0 w' ∧ KeepBut w w' g none := by
  have HI0 := Aside0.mk hI
  have HK := Aside0.mk (KeepBut.refl w g none)
  have HL := Aside0.mk hB.size
  clear hI
  have HW0 := Aside0.mk hB.size
  have HB := Aside0.mk hB
  clear hB
  have H : ((spec_reading_take.f s0_0 s0_1 s0_2 34).bind fun bt135 => (spec_reading_text.l0 k (([] : List Int)) true bt135.1 bt135.2.1 bt135.2.2)) = some (r1, r2, r3, r4, r5) := h
  clear h
  replace H := Option.bind_eq_some_iff.mp H
  obtain ⟨⟨t135, t136, t137⟩, A20, H⟩ := H
  replace H : (spec_reading_text.l0 k (([] : List Int)) true t135 t136 t137) = some (r1, r2, r3, r4, r5) := H
  have A2 := Aside0.mk A20
  clear A20
  obtain ⟨y138, hy138⟩ : ∃ y_ : List Int, y_ = (([] : List Int)) := ⟨_, rfl⟩
  replace H : (spec_reading_text.l0 k y138 true t135 t136 t137) = some (r1, r2, r3, r4, r5) := by first | (rw [hy138]; with_reducible exact H) | (have H2_ := (Option.bind_some _ _).symm.trans H; rw [hy138]; with_reducible exact H2_) | (have H2_ := (Option.bind_some _ _).symm.trans H; with_reducible exact H2_) | with_reducible exact H | (rw [hy138]; exact H) | exact H
  have Ny138 := Aside0.mk hy138
  clear hy138
  have H' := Aside0.mk H
  clear H
  go_enter Tryd.func26, Tryd.ntmps26
  go_wp2_with (first | (go_at_call 41; (with_reducible refine (spec_reading_take.calls g s0_0 s0_1 s0_2 34 t135 t136 t137 w0 _ ?side1 ?side2 A2.out).mono ?_); (case side1 => repeat (first | (with_reducible first | exact HI0.out | apply IsS45.alloc | apply IsS45.drewN | apply IsS45.drew | apply IsS45.set_0 | apply IsS45.set_1 | apply IsS45.set_2) | exact HI0.out)); (case side2 => repeat (first | (with_reducible first | exact HB.out | apply below_alloc | apply pw_below_drewN | apply below_drew1 | refine below_set ?_ (IsS45.ge HI0.out)) | exact HB.out)); rintro e w3 ⟨rfl, hi, hb, hk⟩; have n0_ := Aside0.mk (KeepBut.trans (by repeat (first | (with_reducible first | exact HK.out | apply KeepBut.set_ | apply keep_drewN | apply keep_drew | apply keep_alloc) | exact HK.out)) hk (.inl rfl)); have n1_ := Aside0.mk (hb); have n2_ := Aside0.mk (hi); clear HK; clear HB; clear HI0; have HK := n0_; have HB := n1_; have HI0 := n2_; clear n0_ n1_ n2_; (try clear hb); (try clear hb2); (try clear hk); (try clear hi)) | ((with_reducible refine gate_dst (N := 11) rfl ?_); refine Kd.R_lit (Kd.int .u8) _ 5 ?hg (N := 11) ?hd (xs := ([] : List Int)) (inner := []) (ok := fun _ => True) (okp := fun _ => True) ?hr ?hp (fun _ hk => hk) trivial (Below.refl _ _) (Nat.le_refl _) (by simp) ?_; (case hd => rfl); (case hg => rfl); (case hr => first | (go_simp; done) | (go_simp; rfl)); (case hp => exact (Reps.none _ _)); intro v139 w4 ho5 hb hg_ hnew_; clear hg_ hnew_; (first | rw [← Ny138.out] at ho5 | (simp only [Int.reduceToNat] at ho5; rw [← Ny138.out] at ho5)); have n0_ := Aside0.mk (Kd.R_lower ho5 (keep_size (w := w) (g := g) (row := none) (by repeat (first | (with_reducible first | exact HK.out | apply KeepBut.set_ | apply keep_drewN | apply keep_drew | apply keep_alloc) | exact HK.out)))); have n1_ := Aside0.mk (IsS45.below (by repeat (first | (with_reducible first | exact HI0.out | apply IsS45.alloc | apply IsS45.drewN | apply IsS45.drew | apply IsS45.set_0 | apply IsS45.set_1 | apply IsS45.set_2) | exact HI0.out)) hb); have n2_ := Aside0.mk (KeepBut.trans (by repeat (first | (with_reducible first | exact HK.out | apply KeepBut.set_ | apply keep_drewN | apply keep_drew | apply keep_alloc) | exact HK.out)) (KeepBut.of_below hb g none) (.inl rfl)); have n3_ := Aside0.mk (below_step (by repeat (first | (with_reducible first | exact HB.out | apply below_alloc | apply pw_below_drewN | apply below_drew1 | refine below_set ?_ (IsS45.ge HI0.out)) | exact HB.out)) hb); clear HI0; clear HK; clear HB; have HO140 := n0_; have HI0 := n1_; have HK := n2_; have HB := n3_; clear n0_ n1_ n2_ n3_; clear hb ho5))
  repeat (go_quiet (first | (go_at_call 41; (with_reducible refine (spec_reading_take.calls g s0_0 s0_1 s0_2 34 t135 t136 t137 w0 _ ?side1 ?side2 A2.out).mono ?_); (case side1 => repeat (first | (with_reducible first | exact HI0.out | apply IsS45.alloc | apply IsS45.drewN | apply IsS45.drew | apply IsS45.set_0 | apply IsS45.set_1 | apply IsS45.set_2) | exact HI0.out)); (case side2 => repeat (first | (with_reducible first | exact HB.out | apply below_alloc | apply pw_below_drewN | apply below_drew1 | refine below_set ?_ (IsS45.ge HI0.out)) | exact HB.out)); rintro e w3 ⟨rfl, hi, hb, hk⟩; have n0_ := Aside0.mk (KeepBut.trans (by repeat (first | (with_reducible first | exact HK.out | apply KeepBut.set_ | apply keep_drewN | apply keep_drew | apply keep_alloc) | exact HK.out)) hk (.inl rfl)); have n1_ := Aside0.mk (hb); have n2_ := Aside0.mk (hi); clear HK; clear HB; clear HI0; have HK := n0_; have HB := n1_; have HI0 := n2_; clear n0_ n1_ n2_; (try clear hb); (try clear hb2); (try clear hk); (try clear hi)) | ((with_reducible refine gate_dst (N := 11) rfl ?_); refine Kd.R_lit (Kd.int .u8) _ 5 ?hg (N := 11) ?hd (xs := ([] : List Int)) (inner := []) (ok := fun _ => True) (okp := fun _ => True) ?hr ?hp (fun _ hk => hk) trivial (Below.refl _ _) (Nat.le_refl _) (by simp) ?_; (case hd => rfl); (case hg => rfl); (case hr => first | (go_simp; done) | (go_simp; rfl)); (case hp => exact (Reps.none _ _)); intro v139 w4 ho5 hb hg_ hnew_; clear hg_ hnew_; (first | rw [← Ny138.out] at ho5 | (simp only [Int.reduceToNat] at ho5; rw [← Ny138.out] at ho5)); have n0_ := Aside0.mk (Kd.R_lower ho5 (keep_size (w := w) (g := g) (row := none) (by repeat (first | (with_reducible first | exact HK.out | apply KeepBut.set_ | apply keep_drewN | apply keep_drew | apply keep_alloc) | exact HK.out)))); have n1_ := Aside0.mk (IsS45.below (by repeat (first | (with_reducible first | exact HI0.out | apply IsS45.alloc | apply IsS45.drewN | apply IsS45.drew | apply IsS45.set_0 | apply IsS45.set_1 | apply IsS45.set_2) | exact HI0.out)) hb); have n2_ := Aside0.mk (KeepBut.trans (by repeat (first | (with_reducible first | exact HK.out | apply KeepBut.set_ | apply keep_drewN | apply keep_drew | apply keep_alloc) | exact HK.out)) (KeepBut.of_below hb g none) (.inl rfl)); have n3_ := Aside0.mk (below_step (by repeat (first | (with_reducible first | exact HB.out | apply below_alloc | apply pw_below_drewN | apply below_drew1 | refine below_set ?_ (IsS45.ge HI0.out)) | exact HB.out)) hb); clear HI0; clear HK; clear HB; have HO140 := n0_; have HI0 := n1_; have HK := n2_; have HB := n3_; clear n0_ n1_ n2_ n3_; clear hb ho5)); try go_wp2_with (first | (go_at_call 41; (with_reducible refine (spec_reading_take.calls g s0_0 s0_1 s0_2 34 t135 t136 t137 w0 _ ?side1 ?side2 A2.out).mono ?_); (case side1 => repeat (first | (with_reducible first | exact HI0.out | apply IsS45.alloc | apply IsS45.drewN | apply IsS45.drew | apply IsS45.set_0 | apply IsS45.set_1 | apply IsS45.set_2) | exact HI0.out)); (case side2 => repeat (first | (with_reducible first | exact HB.out | apply below_alloc | apply pw_below_drewN | apply below_drew1 | refine below_set ?_ (IsS45.ge HI0.out)) | exact HB.out)); rintro e w3 ⟨rfl, hi, hb, hk⟩; have n0_ := Aside0.mk (KeepBut.trans (by repeat (first | (with_reducible first | exact HK.out | apply KeepBut.set_ | apply keep_drewN | apply keep_drew | apply keep_alloc) | exact HK.out)) hk (.inl rfl)); have n1_ := Aside0.mk (hb); have n2_ := Aside0.mk (hi); clear HK; clear HB; clear HI0; have HK := n0_; have HB := n1_; have HI0 := n2_; clear n0_ n1_ n2_; (try clear hb); (try clear hb2); (try clear hk); (try clear hi)) | ((with_reducible refine gate_dst (N := 11) rfl ?_); refine Kd.R_lit (Kd.int .u8) _ 5 ?hg (N := 11) ?hd (xs := ([] : List Int)) (inner := []) (ok := fun _ => True) (okp := fun _ => True) ?hr ?hp (fun _ hk => hk) trivial (Below.refl _ _) (Nat.le_refl _) (by simp) ?_; (case hd => rfl); (case hg => rfl); (case hr => first | (go_simp; done) | (go_simp; rfl)); (case hp => exact (Reps.none _ _)); intro v139 w4 ho5 hb hg_ hnew_; clear hg_ hnew_; (first | rw [← Ny138.out] at ho5 | (simp only [Int.reduceToNat] at ho5; rw [← Ny138.out] at ho5)); have n0_ := Aside0.mk (Kd.R_lower ho5 (keep_size (w := w) (g := g) (row := none) (by repeat (first | (with_reducible first | exact HK.out | apply KeepBut.set_ | apply keep_drewN | apply keep_drew | apply keep_alloc) | exact HK.out)))); have n1_ := Aside0.mk (IsS45.below (by repeat (first | (with_reducible first | exact HI0.out | apply IsS45.alloc | apply IsS45.drewN | apply IsS45.drew | apply IsS45.set_0 | apply IsS45.set_1 | apply IsS45.set_2) | exact HI0.out)) hb); have n2_ := Aside0.mk (KeepBut.trans (by repeat (first | (with_reducible first | exact HK.out | apply KeepBut.set_ | apply keep_drewN | apply keep_drew | apply keep_alloc) | exact HK.out)) (KeepBut.of_below hb g none) (.inl rfl)); have n3_ := Aside0.mk (below_step (by repeat (first | (with_reducible first | exact HB.out | apply below_alloc | apply pw_below_drewN | apply below_drew1 | refine below_set ?_ (IsS45.ge HI0.out)) | exact HB.out)) hb); clear HI0; clear HK; clear HB; have HO140 := n0_; have HI0 := n1_; have HK := n2_; have HB := n3_; clear n0_ n1_ n2_ n3_; clear hb ho5)))
  go_loopg [4, 5] k (fun kq v4 v5 w' => ∃ (x4_1 : List Int) (x5_1 : Bool) (x1000_1 : ByteArray) (x1001_1 : Int) (x1002_1 : Bool), v5 = .bool x5_1 ∧ Aside0 (spec_reading_text.l0 kq x4_1 x5_1 x1000_1 x1001_1 x1002_1 = some (r1, r2, r3, r4, r5)) ∧ Aside0 (kq ≤ k) ∧ Aside0 (Kd.R (Kd.int .u8) 5 w' w.heap.size (fun _ => True) v4 x4_1) ∧ Aside0 (IsS45 w0 w' g x1000_1 x1001_1 x1002_1) ∧ Aside0 (KeepBut w w' g none) ∧ Aside0 (Below w0.heap.size w0 w'))
  case atStart => exact ⟨(y138), (true), (t135), (t136), (t137), (by first | rfl | (simp; done) | (simp [*]; done)), H', ⟨Nat.le_refl _⟩, ⟨by (with_reducible repeat (first | apply Kd.R_alloc | apply Kd.R_drewN | apply Kd.R_drew)); exact HO140.out⟩, ⟨by repeat (first | (with_reducible first | exact HI0.out | apply IsS45.alloc | apply IsS45.drewN | apply IsS45.drew | apply IsS45.set_0 | apply IsS45.set_1 | apply IsS45.set_2) | exact HI0.out)⟩, ⟨by repeat (first | (with_reducible first | exact HK.out | apply KeepBut.set_ | apply keep_drewN | apply keep_drew | apply keep_alloc) | exact HK.out)⟩, ⟨by repeat (first | (with_reducible first | exact HB.out | apply below_alloc | apply pw_below_drewN | apply below_drew1 | refine below_set ?_ (IsS45.ge HI0.out)) | exact HB.out)⟩⟩
  case round =>
    clear H'
    try clear c2
    try clear p2
    obtain ⟨x4_1, x5_1, x1000_1, x1001_1, x1002_1, rfl, HA, HK1, HO_4, HI0, HK, HB⟩ := hrel
    cases gk with
    | zero => exact absurd HA.out (by simp [spec_reading_text.l0])
    | succ k1 =>
      have H := HA.out
      clear HA
      simp only [spec_reading_text.l0] at H
      by_cases c6 : x1002_1 = true
      · subst c6
        have H1 : (some (strOfNums x4_1, x5_1, x1000_1, x1001_1, true)) = some (r1, r2, r3, r4, r5) := by rw [if_pos rfl] at H; exact H
        clear H
        have H := H1
        clear H1
        simp only [Option.some.injEq, Prod.mk.injEq] at H
        obtain ⟨rfl, rfl, rfl, rfl, rfl⟩ := H
        obtain ⟨HGz7, hgz7⟩ := HI0.out
        have hcz7_0 := cellS45_0 HGz7
        have hcz7_1 := cellS45_1 HGz7
        have hcz7_2 := cellS45_2 HGz7
        have hfz7_0 := blk_frozen HGz7 0
        have hfz7_1 := blk_frozen HGz7 1
        have hfz7_2 := blk_frozen HGz7 2
        clear HGz7 hgz7
        have hcv8 := own_string (P := Tryd.prog) Tryd.underlying54 Tryd.underlying5 Tryd.underlying9 (Kd.own_of_R HO_4.out)
        have hcv8a := fun (m j : Nat) (u : Value) => text_conv HI0.out HO_4.out m j u
        have hcv8b := fun (j : Nat) (u : Value) => text_conv0 HI0.out HO_4.out j u
        go_wp2
        repeat (go_quiet (fail); try go_wp2)
        go_ret2
        exact ⟨by first | rfl | (simp [errW_none, errW_some] <;> rfl) | (simp [*, errW_none, errW_some] <;> rfl), by repeat (first | (with_reducible first | exact HI0.out | apply IsS45.alloc | apply IsS45.drewN | apply IsS45.drew | apply IsS45.set_0 | apply IsS45.set_1 | apply IsS45.set_2) | exact HI0.out), by repeat (first | (with_reducible first | exact HB.out | apply below_alloc | apply pw_below_drewN | apply below_drew1 | refine below_set ?_ (IsS45.ge HI0.out)) | exact HB.out), by repeat (first | (with_reducible first | exact HK.out | apply KeepBut.set_ | apply keep_drewN | apply keep_drew | apply keep_alloc) | exact HK.out)⟩
      · replace c6 := Bool.eq_false_iff.mpr c6
        subst c6
        have H1 : (if x1001_1 ≥ (x1000_1.size : Int) then (spec_reading_text.j1 k1 x4_1 x5_1 true x1000_1 x1001_1 false) else (if 0 ≤ x1001_1 then (if x1001_1 < (x1000_1.size : Int) then (spec_reading_text.j1 k1 x4_1 x5_1 (decide ((bt x1000_1 x1001_1) < 32)) x1000_1 x1001_1 false) else (none)) else (none))) = some (r1, r2, r3, r4, r5) := by rw [if_neg (show ¬ (false = true) by decide)] at H; exact H
        clear H
        have H := H1
        clear H1
        have HC9 := Aside0.mk H
        clear H
        obtain ⟨HGz10, hgz10⟩ := HI0.out
        have hcz10_0 := cellS45_0 HGz10
        have hcz10_1 := cellS45_1 HGz10
        have hcz10_2 := cellS45_2 HGz10
        have hfz10_0 := blk_frozen HGz10 0
        have hfz10_1 := blk_frozen HGz10 1
        have hfz10_2 := blk_frozen HGz10 2
        clear HGz10 hgz10
        go_upto_region 5 with (fail)
        repeat (go_quiet (fail); go_upto_region 5 with (fail))
        go_cut [38] (fun v38 wc => ∃ (kq : Nat) (x38_8 : Bool), v38 = .bool x38_8 ∧ Aside0 (spec_reading_text.j1 kq x4_1 x5_1 x38_8 x1000_1 x1001_1 false = some (r1, r2, r3, r4, r5)) ∧ Aside0 (kq ≤ k1) ∧ Aside0 (Kd.R (Kd.int .u8) 5 wc w.heap.size (fun _ => True) u4 x4_1) ∧ Aside0 (IsS45 w0 wc g x1000_1 x1001_1 false) ∧ Aside0 (KeepBut w wc g none) ∧ Aside0 (Below w0.heap.size w0 wc))
        case first =>
          have H := HC9.out
          clear HC9
          by_cases c11 : x1001_1 ≥ (x1000_1.size : Int)
          · rw [if_pos c11] at H
            have c11b0 : decide ((x1000_1.size : Int) ≤ x1001_1) = true := decide_eq_true c11
            clear c11
            (first | rw [c11b0] | (simp only [i64_w, i32_w]; rw [c11b0]) | skip)
            have H' := Aside0.mk H
            clear H
            obtain ⟨HGz12, hgz12⟩ := HI0.out
            have hcz12_0 := cellS45_0 HGz12
            have hcz12_1 := cellS45_1 HGz12
            have hcz12_2 := cellS45_2 HGz12
            have hfz12_0 := blk_frozen HGz12 0
            have hfz12_1 := blk_frozen HGz12 1
            have hfz12_2 := blk_frozen HGz12 2
            clear HGz12 hgz12
            go_wp2
            repeat (go_quiet (fail); try go_wp2)
            go_meet
            case rel => exact ⟨_, (true), (by first | rfl | (simp; done) | (simp [*]; done)), H', ⟨by have := HK1.out; first | omega | exact Nat.le_refl _⟩, ⟨by (with_reducible repeat (first | apply Kd.R_alloc | apply Kd.R_drewN | apply Kd.R_drew)); exact HO_4.out⟩, ⟨by repeat (first | (with_reducible first | exact HI0.out | apply IsS45.alloc | apply IsS45.drewN | apply IsS45.drew | apply IsS45.set_0 | apply IsS45.set_1 | apply IsS45.set_2) | exact HI0.out)⟩, ⟨by repeat (first | (with_reducible first | exact HK.out | apply KeepBut.set_ | apply keep_drewN | apply keep_drew | apply keep_alloc) | exact HK.out)⟩, ⟨by repeat (first | (with_reducible first | exact HB.out | apply below_alloc | apply pw_below_drewN | apply below_drew1 | refine below_set ?_ (IsS45.ge HI0.out)) | exact HB.out)⟩⟩
          · rw [if_neg c11] at H
            have c11b0 : decide ((x1000_1.size : Int) ≤ x1001_1) = false := decide_eq_false c11
            clear c11
            (first | rw [c11b0] | (simp only [i64_w, i32_w]; rw [c11b0]) | skip)
            by_cases c13 : 0 ≤ x1001_1
            · rw [if_pos c13] at H
              have c13b0 : decide (0 ≤ x1001_1) = true := decide_eq_true c13
              clear c13
              by_cases c14 : x1001_1 < (x1000_1.size : Int)
              · rw [if_pos c14] at H
                have c14b0 : decide (x1001_1 < (x1000_1.size : Int)) = true := decide_eq_true c14
                clear c14
                have H' := Aside0.mk H
                clear H
                obtain ⟨HGz16, hgz16⟩ := HI0.out
                have hcz16_0 := cellS45_0 HGz16
                have hcz16_1 := cellS45_1 HGz16
                have hcz16_2 := cellS45_2 HGz16
                have hfz16_0 := blk_frozen HGz16 0
                have hfz16_1 := blk_frozen HGz16 1
                have hfz16_2 := blk_frozen HGz16 2
                clear HGz16 hgz16
                have p15 : 0 ≤ (x1001_1 : Int) := of_decide_eq_true (by first | (with_reducible assumption) | assumption)
                have q15 : x1001_1 < (x1000_1.size : Int) := of_decide_eq_true (by first | (with_reducible assumption) | assumption)
                have hx15 := bt_at x1000_1 x1001_1
                replace p15 := eq_true p15
                replace q15 := eq_true q15
                go_wp2
                repeat (go_quiet (fail); try go_wp2)
                go_meet
                case rel => exact ⟨_, (decide ((bt x1000_1 x1001_1) < 32)), (by first | rfl | (simp; done) | (simp [*]; done)), H', ⟨by have := HK1.out; first | omega | exact Nat.le_refl _⟩, ⟨by (with_reducible repeat (first | apply Kd.R_alloc | apply Kd.R_drewN | apply Kd.R_drew)); exact HO_4.out⟩, ⟨by repeat (first | (with_reducible first | exact HI0.out | apply IsS45.alloc | apply IsS45.drewN | apply IsS45.drew | apply IsS45.set_0 | apply IsS45.set_1 | apply IsS45.set_2) | exact HI0.out)⟩, ⟨by repeat (first | (with_reducible first | exact HK.out | apply KeepBut.set_ | apply keep_drewN | apply keep_drew | apply keep_alloc) | exact HK.out)⟩, ⟨by repeat (first | (with_reducible first | exact HB.out | apply below_alloc | apply pw_below_drewN | apply below_drew1 | refine below_set ?_ (IsS45.ge HI0.out)) | exact HB.out)⟩⟩
              · rw [if_neg c14] at H
                exact absurd H (by simp)
            · rw [if_neg c13] at H
              exact absurd H (by simp)
        case rest =>
          clear HC9
          try clear c1
          try clear p1
          try clear q1
          try clear hx1
          try clear c2
          try clear p2
          try clear c6
          try clear hcv8
          try clear c11
          try clear c11b0
          try clear c13
          try clear c13b0
          try clear c14
          try clear c14b0
          try clear p15
          try clear q15
          try clear hx15
          try clear hcz10_0
          try clear hcz10_1
          try clear hcz10_2
          try clear hcz12_0
          try clear hcz12_1
          try clear hcz12_2
          try clear hcz16_0
          try clear hcz16_1
          try clear hcz16_2
          try clear hcz7_0
          try clear hcz7_1
          try clear hcz7_2
          try clear hfz10_0
          try clear hfz10_1
          try clear hfz10_2
          try clear hfz12_0
          try clear hfz12_1
          try clear hfz12_2
          try clear hfz16_0
          try clear hfz16_1
          try clear hfz16_2
          try clear hfz7_0
          try clear hfz7_1
          try clear hfz7_2
          try clear p15
          try clear p2
          try clear q15
          obtain ⟨kq, x38_8, rfl, HA, HJ8, HO_4, HI0, HK, HB⟩ := hcut
          cases kq with
          | zero => exact absurd HA.out (by simp [spec_reading_text.j1])
          | succ kj8 =>
            have H := HA.out
            clear HA
            simp only [spec_reading_text.j1] at H
            by_cases c17 : x38_8 = true
            · subst c17
              have H1 : (some (strOfNums x4_1, x5_1, x1000_1, x1001_1, true)) = some (r1, r2, r3, r4, r5) := by rw [if_pos rfl] at H; exact H
              clear H
              have H := H1
              clear H1
              simp only [Option.some.injEq, Prod.mk.injEq] at H
              obtain ⟨rfl, rfl, rfl, rfl, rfl⟩ := H
              obtain ⟨HGz18, hgz18⟩ := HI0.out
              have hcz18_0 := cellS45_0 HGz18
              have hcz18_1 := cellS45_1 HGz18
              have hcz18_2 := cellS45_2 HGz18
              have hfz18_0 := blk_frozen HGz18 0
              have hfz18_1 := blk_frozen HGz18 1
              have hfz18_2 := blk_frozen HGz18 2
              clear HGz18 hgz18
              have hcv19 := own_string (P := Tryd.prog) Tryd.underlying54 Tryd.underlying5 Tryd.underlying9 (Kd.own_of_R HO_4.out)
              have hcv19a := fun (m j : Nat) (u : Value) => text_conv HI0.out HO_4.out m j u
              have hcv19b := fun (j : Nat) (u : Value) => text_conv0 HI0.out HO_4.out j u
              go_wp2
              repeat (go_quiet (fail); try go_wp2)
              go_ret2
              exact ⟨by first | rfl | (simp [errW_none, errW_some] <;> rfl) | (simp [*, errW_none, errW_some] <;> rfl), by repeat (first | (with_reducible first | exact HI0.out | apply IsS45.alloc | apply IsS45.drewN | apply IsS45.drew | apply IsS45.set_0 | apply IsS45.set_1 | apply IsS45.set_2) | exact HI0.out), by repeat (first | (with_reducible first | exact HB.out | apply below_alloc | apply pw_below_drewN | apply below_drew1 | refine below_set ?_ (IsS45.ge HI0.out)) | exact HB.out), by repeat (first | (with_reducible first | exact HK.out | apply KeepBut.set_ | apply keep_drewN | apply keep_drew | apply keep_alloc) | exact HK.out)⟩
            · replace c17 := Bool.eq_false_iff.mpr c17
              subst c17
              have H1 : (if 0 ≤ x1001_1 then (if x1001_1 < (x1000_1.size : Int) then (if (bt x1000_1 x1001_1) = 34 then (some (strOfNums x4_1, x5_1, x1000_1, wrap64 (x1001_1 + 1), false)) else (if (bt x1000_1 x1001_1) = 92 then ((spec_reading_escape.f kj8 x1000_1 (wrap64 (x1001_1 + 1)) false).bind fun bt141 => (if x4_1.length + bt141.1.size < 140737488355328 then ((some (x4_1 ++ bytesOf bt141.1 : List Int)).bind fun y146 => (if x5_1 = true then (spec_reading_text.l0 kj8 y146 bt141.2.1 bt141.2.2.1 bt141.2.2.2.1 bt141.2.2.2.2) else (spec_reading_text.l0 kj8 y146 false bt141.2.2.1 bt141.2.2.2.1 bt141.2.2.2.2))) else (none))) else (if x4_1.length < 140737488355328 then (spec_reading_text.l0 kj8 (x4_1 ++ [bt x1000_1 x1001_1]) x5_1 x1000_1 (wrap64 (x1001_1 + 1)) false) else (none)))) else (none)) else (none)) = some (r1, r2, r3, r4, r5) := by rw [if_neg (show ¬ (false = true) by decide)] at H; exact H
              clear H
              have H := H1
              clear H1
              by_cases c20 : 0 ≤ x1001_1
              · rw [if_pos c20] at H
                have c20b0 : decide (0 ≤ x1001_1) = true := decide_eq_true c20
                clear c20
                by_cases c21 : x1001_1 < (x1000_1.size : Int)
                · rw [if_pos c21] at H
                  have c21b0 : decide (x1001_1 < (x1000_1.size : Int)) = true := decide_eq_true c21
                  clear c21
                  by_cases c23 : (bt x1000_1 x1001_1) = 34
                  · rw [if_pos c23] at H
                    have c23b0 : ((bt x1000_1 x1001_1) == 34) = true := beq_iff_eq.mpr c23
                    have c23b1 : ((bt x1000_1 x1001_1) != 34) = false := bne_eq_false_iff_eq.mpr c23
                    clear c23
                    simp only [Option.some.injEq, Prod.mk.injEq] at H
                    obtain ⟨rfl, rfl, rfl, rfl, rfl⟩ := H
                    obtain ⟨HGz24, hgz24⟩ := HI0.out
                    have hcz24_0 := cellS45_0 HGz24
                    have hcz24_1 := cellS45_1 HGz24
                    have hcz24_2 := cellS45_2 HGz24
                    have hfz24_0 := blk_frozen HGz24 0
                    have hfz24_1 := blk_frozen HGz24 1
                    have hfz24_2 := blk_frozen HGz24 2
                    clear HGz24 hgz24
                    have p22 : 0 ≤ (x1001_1 : Int) := of_decide_eq_true (by first | (with_reducible assumption) | assumption)
                    have q22 : x1001_1 < (x1000_1.size : Int) := of_decide_eq_true (by first | (with_reducible assumption) | assumption)
                    have hx22 := bt_at x1000_1 x1001_1
                    replace p22 := eq_true p22
                    replace q22 := eq_true q22
                    have hcv25 := own_string (P := Tryd.prog) Tryd.underlying54 Tryd.underlying5 Tryd.underlying9 (Kd.own_of_R HO_4.out)
                    have hcv25a := fun (m j : Nat) (u : Value) => text_conv HI0.out HO_4.out m j u
                    have hcv25b := fun (j : Nat) (u : Value) => text_conv0 HI0.out HO_4.out j u
                    go_wp2
                    repeat (go_quiet (fail); try go_wp2)
                    go_ret2
                    exact ⟨by first | rfl | (simp [errW_none, errW_some] <;> rfl) | (simp [*, errW_none, errW_some] <;> rfl), by repeat (first | (with_reducible first | exact HI0.out | apply IsS45.alloc | apply IsS45.drewN | apply IsS45.drew | apply IsS45.set_0 | apply IsS45.set_1 | apply IsS45.set_2) | exact HI0.out), by repeat (first | (with_reducible first | exact HB.out | apply below_alloc | apply pw_below_drewN | apply below_drew1 | refine below_set ?_ (IsS45.ge HI0.out)) | exact HB.out), by repeat (first | (with_reducible first | exact HK.out | apply KeepBut.set_ | apply keep_drewN | apply keep_drew | apply keep_alloc) | exact HK.out)⟩
                  · rw [if_neg c23] at H
                    have c23b0 : ((bt x1000_1 x1001_1) == 34) = false := beq_eq_false_iff_ne.mpr c23
                    have c23b1 : ((bt x1000_1 x1001_1) != 34) = true := bne_iff_ne.mpr c23
                    by_cases c26 : (bt x1000_1 x1001_1) = 92
                    · rw [if_pos c26] at H
                      have c26b0 : ((bt x1000_1 x1001_1) == 92) = true := beq_iff_eq.mpr c26
                      have c26b1 : ((bt x1000_1 x1001_1) != 92) = false := bne_eq_false_iff_eq.mpr c26
                      clear c26
                      replace H := Option.bind_eq_some_iff.mp H
                      obtain ⟨⟨t141, t142, t143, t144, t145⟩, A270, H⟩ := H
                      replace H : (if x4_1.length + t141.size < 140737488355328 then ((some (x4_1 ++ bytesOf t141 : List Int)).bind fun y146 => (if x5_1 = true then (spec_reading_text.l0 kj8 y146 t142 t143 t144 t145) else (spec_reading_text.l0 kj8 y146 false t143 t144 t145))) else (none)) = some (r1, r2, r3, r4, r5) := H
                      have A27 := Aside0.mk A270
                      clear A270
                      by_cases c28 : x4_1.length + t141.size < 140737488355328
                      · rw [if_pos c28] at H
                        have LMc28 := Aside0.mk c28
                        clear c28
                        obtain ⟨y146, hy146⟩ : ∃ y_ : List Int, y_ = (x4_1 ++ bytesOf t141) := ⟨_, rfl⟩
                        replace H : (if x5_1 = true then (spec_reading_text.l0 kj8 y146 t142 t143 t144 t145) else (spec_reading_text.l0 kj8 y146 false t143 t144 t145)) = some (r1, r2, r3, r4, r5) := by first | (rw [hy146]; with_reducible exact H) | (have H2_ := (Option.bind_some _ _).symm.trans H; rw [hy146]; with_reducible exact H2_) | (have H2_ := (Option.bind_some _ _).symm.trans H; with_reducible exact H2_) | with_reducible exact H | (rw [hy146]; exact H) | exact H
                        have Ny146 := Aside0.mk hy146
                        clear hy146
                        by_cases c29 : x5_1 = true
                        · subst c29
                          have H1 : (spec_reading_text.l0 kj8 y146 t142 t143 t144 t145) = some (r1, r2, r3, r4, r5) := by rw [if_pos rfl] at H; exact H
                          clear H
                          have H := H1
                          clear H1
                          have H' := Aside0.mk H
                          clear H
                          obtain ⟨HGz30, hgz30⟩ := HI0.out
                          have hcz30_0 := cellS45_0 HGz30
                          have hcz30_1 := cellS45_1 HGz30
                          have hcz30_2 := cellS45_2 HGz30
                          have hfz30_0 := blk_frozen HGz30 0
                          have hfz30_1 := blk_frozen HGz30 1
                          have hfz30_2 := blk_frozen HGz30 2
                          clear HGz30 hgz30
                          have p22 : 0 ≤ (x1001_1 : Int) := of_decide_eq_true (by first | (with_reducible assumption) | assumption)
                          have q22 : x1001_1 < (x1000_1.size : Int) := of_decide_eq_true (by first | (with_reducible assumption) | assumption)
                          have hx22 := bt_at x1000_1 x1001_1
                          replace p22 := eq_true p22
                          replace q22 := eq_true q22
                          go_wp2_with (first | (go_at_call 42; (with_reducible refine (spec_reading_escape.calls kj8 g x1000_1 (wrap64 (x1001_1 + 1)) false t141 t142 t143 t144 t145 w0 _ ?side1 ?side2 A27.out).mono ?_); (case side1 => repeat (first | (with_reducible first | exact HI0.out | apply IsS45.alloc | apply IsS45.drewN | apply IsS45.drew | apply IsS45.set_0 | apply IsS45.set_1 | apply IsS45.set_2) | exact HI0.out)); (case side2 => repeat (first | (with_reducible first | exact HB.out | apply below_alloc | apply pw_below_drewN | apply below_drew1 | refine below_set ?_ (IsS45.ge HI0.out)) | exact HB.out)); rintro e w31 ⟨rfl, hi, hb, hk⟩; have n0_ := Aside0.mk (Kd.R_mono (Kd.R_keep (IsS45.apart (show IsS45 w0 _ g x1000_1 (wrap64 (x1001_1 + 1)) false from by repeat (first | (with_reducible first | exact HI0.out | apply IsS45.alloc | apply IsS45.drewN | apply IsS45.drew | apply IsS45.set_0 | apply IsS45.set_1 | apply IsS45.set_2) | exact HI0.out)) (by (with_reducible repeat (first | apply Kd.R_alloc | apply Kd.R_drewN | apply Kd.R_drew)); exact (Kd.R_mono (Kd.R_far (p := ⟨g, 1, none⟩) (IsS45.apart HI0.out HO_4.out (by decide)) (fun _ hk => hk.2) (.int .i64 (wrap64 (x1001_1 + 1)))) (fun _ h_ => h_.1))) (by decide)) hk (fun _ h => h.2)) (fun _ h => h.1)); have n1_ := Aside0.mk (KeepBut.trans (by repeat (first | (with_reducible first | exact HK.out | apply KeepBut.set_ | apply keep_drewN | apply keep_drew | apply keep_alloc) | exact HK.out)) hk (.inl rfl)); have n2_ := Aside0.mk (hb); have n3_ := Aside0.mk (hi); clear HO_4; clear HK; clear HB; clear HI0; have HO_4 := n0_; have HK := n1_; have HB := n2_; have HI0 := n3_; clear n0_ n1_ n2_ n3_; (try clear hb); (try clear hb2); (try clear hk); (try clear hi)) | (at_builtin; refine print_append_str w.heap.size rfl (.tmp 71) _ 54 9 5 rfl Tryd.underlying54 Tryd.underlying9 info5 u4 x4_1 t141 rfl rfl ?aO (Below.refl _ _) ?aS ?aL ?_; (case aO => exact (Kd.own_of_R (by (with_reducible repeat (first | apply Kd.R_alloc | apply Kd.R_drewN | apply Kd.R_drew)); exact HO_4.out))); (case aS => exact (keep_size (w := w) (g := g) (row := none) (by repeat (first | (with_reducible first | exact HK.out | apply KeepBut.set_ | apply keep_drewN | apply keep_drew | apply keep_alloc) | exact HK.out)))); (case aL => have := LMc28.out; omega); intro v147 w32 ho0 hb hg; have ho := Kd.R_of_own (h1 := fun _ => rfl) (ok := fun _ => True) ho0 (fun _ _ => trivial); clear ho0; have hat := True.intro; rw [← Ny146.out] at ho; change Kd.R (Kd.int .u8) 5 w32 w.heap.size (fun _ => True) v147 y146 at ho; have n0_ := Aside0.mk (IsS45.grown (by repeat (first | (with_reducible first | exact HI0.out | apply IsS45.alloc | apply IsS45.drewN | apply IsS45.drew | apply IsS45.set_0 | apply IsS45.set_1 | apply IsS45.set_2) | exact HI0.out)) hg (IsS45.own_ne HI0.out HO_4.out (by decide))); have n1_ := Aside0.mk (below_weaken (by repeat (first | (with_reducible first | exact HB.out | apply below_alloc | apply pw_below_drewN | apply below_drew1 | refine below_set ?_ (IsS45.ge HI0.out)) | exact HB.out)) HL.out hb); have n2_ := Aside0.mk (KeepBut.trans (by repeat (first | (with_reducible first | exact HK.out | apply KeepBut.set_ | apply keep_drewN | apply keep_drew | apply keep_alloc) | exact HK.out)) (KeepBut.of_grown hg g) (Kd.R_base2 HO_4.out)); have n3_ := Aside0.mk (ho); clear HI0; clear HB; clear HK; clear HO_4; have HI0 := n0_; have HB := n1_; have HK := n2_; have HO148 := n3_; clear n0_ n1_ n2_ n3_; clear ho hb hg hat))
                          repeat (go_quiet (first | (go_at_call 42; (with_reducible refine (spec_reading_escape.calls kj8 g x1000_1 (wrap64 (x1001_1 + 1)) false t141 t142 t143 t144 t145 w0 _ ?side1 ?side2 A27.out).mono ?_); (case side1 => repeat (first | (with_reducible first | exact HI0.out | apply IsS45.alloc | apply IsS45.drewN | apply IsS45.drew | apply IsS45.set_0 | apply IsS45.set_1 | apply IsS45.set_2) | exact HI0.out)); (case side2 => repeat (first | (with_reducible first | exact HB.out | apply below_alloc | apply pw_below_drewN | apply below_drew1 | refine below_set ?_ (IsS45.ge HI0.out)) | exact HB.out)); rintro e w31 ⟨rfl, hi, hb, hk⟩; have n0_ := Aside0.mk (Kd.R_mono (Kd.R_keep (IsS45.apart (show IsS45 w0 _ g x1000_1 (wrap64 (x1001_1 + 1)) false from by repeat (first | (with_reducible first | exact HI0.out | apply IsS45.alloc | apply IsS45.drewN | apply IsS45.drew | apply IsS45.set_0 | apply IsS45.set_1 | apply IsS45.set_2) | exact HI0.out)) (by (with_reducible repeat (first | apply Kd.R_alloc | apply Kd.R_drewN | apply Kd.R_drew)); exact (Kd.R_mono (Kd.R_far (p := ⟨g, 1, none⟩) (IsS45.apart HI0.out HO_4.out (by decide)) (fun _ hk => hk.2) (.int .i64 (wrap64 (x1001_1 + 1)))) (fun _ h_ => h_.1))) (by decide)) hk (fun _ h => h.2)) (fun _ h => h.1)); have n1_ := Aside0.mk (KeepBut.trans (by repeat (first | (with_reducible first | exact HK.out | apply KeepBut.set_ | apply keep_drewN | apply keep_drew | apply keep_alloc) | exact HK.out)) hk (.inl rfl)); have n2_ := Aside0.mk (hb); have n3_ := Aside0.mk (hi); clear HO_4; clear HK; clear HB; clear HI0; have HO_4 := n0_; have HK := n1_; have HB := n2_; have HI0 := n3_; clear n0_ n1_ n2_ n3_; (try clear hb); (try clear hb2); (try clear hk); (try clear hi)) | (at_builtin; refine print_append_str w.heap.size rfl (.tmp 71) _ 54 9 5 rfl Tryd.underlying54 Tryd.underlying9 info5 u4 x4_1 t141 rfl rfl ?aO (Below.refl _ _) ?aS ?aL ?_; (case aO => exact (Kd.own_of_R (by (with_reducible repeat (first | apply Kd.R_alloc | apply Kd.R_drewN | apply Kd.R_drew)); exact HO_4.out))); (case aS => exact (keep_size (w := w) (g := g) (row := none) (by repeat (first | (with_reducible first | exact HK.out | apply KeepBut.set_ | apply keep_drewN | apply keep_drew | apply keep_alloc) | exact HK.out)))); (case aL => have := LMc28.out; omega); intro v147 w32 ho0 hb hg; have ho := Kd.R_of_own (h1 := fun _ => rfl) (ok := fun _ => True) ho0 (fun _ _ => trivial); clear ho0; have hat := True.intro; rw [← Ny146.out] at ho; change Kd.R (Kd.int .u8) 5 w32 w.heap.size (fun _ => True) v147 y146 at ho; have n0_ := Aside0.mk (IsS45.grown (by repeat (first | (with_reducible first | exact HI0.out | apply IsS45.alloc | apply IsS45.drewN | apply IsS45.drew | apply IsS45.set_0 | apply IsS45.set_1 | apply IsS45.set_2) | exact HI0.out)) hg (IsS45.own_ne HI0.out HO_4.out (by decide))); have n1_ := Aside0.mk (below_weaken (by repeat (first | (with_reducible first | exact HB.out | apply below_alloc | apply pw_below_drewN | apply below_drew1 | refine below_set ?_ (IsS45.ge HI0.out)) | exact HB.out)) HL.out hb); have n2_ := Aside0.mk (KeepBut.trans (by repeat (first | (with_reducible first | exact HK.out | apply KeepBut.set_ | apply keep_drewN | apply keep_drew | apply keep_alloc) | exact HK.out)) (KeepBut.of_grown hg g) (Kd.R_base2 HO_4.out)); have n3_ := Aside0.mk (ho); clear HI0; clear HB; clear HK; clear HO_4; have HI0 := n0_; have HB := n1_; have HK := n2_; have HO148 := n3_; clear n0_ n1_ n2_ n3_; clear ho hb hg hat)); try go_wp2_with (first | (go_at_call 42; (with_reducible refine (spec_reading_escape.calls kj8 g x1000_1 (wrap64 (x1001_1 + 1)) false t141 t142 t143 t144 t145 w0 _ ?side1 ?side2 A27.out).mono ?_); (case side1 => repeat (first | (with_reducible first | exact HI0.out | apply IsS45.alloc | apply IsS45.drewN | apply IsS45.drew | apply IsS45.set_0 | apply IsS45.set_1 | apply IsS45.set_2) | exact HI0.out)); (case side2 => repeat (first | (with_reducible first | exact HB.out | apply below_alloc | apply pw_below_drewN | apply below_drew1 | refine below_set ?_ (IsS45.ge HI0.out)) | exact HB.out)); rintro e w31 ⟨rfl, hi, hb, hk⟩; have n0_ := Aside0.mk (Kd.R_mono (Kd.R_keep (IsS45.apart (show IsS45 w0 _ g x1000_1 (wrap64 (x1001_1 + 1)) false from by repeat (first | (with_reducible first | exact HI0.out | apply IsS45.alloc | apply IsS45.drewN | apply IsS45.drew | apply IsS45.set_0 | apply IsS45.set_1 | apply IsS45.set_2) | exact HI0.out)) (by (with_reducible repeat (first | apply Kd.R_alloc | apply Kd.R_drewN | apply Kd.R_drew)); exact (Kd.R_mono (Kd.R_far (p := ⟨g, 1, none⟩) (IsS45.apart HI0.out HO_4.out (by decide)) (fun _ hk => hk.2) (.int .i64 (wrap64 (x1001_1 + 1)))) (fun _ h_ => h_.1))) (by decide)) hk (fun _ h => h.2)) (fun _ h => h.1)); have n1_ := Aside0.mk (KeepBut.trans (by repeat (first | (with_reducible first | exact HK.out | apply KeepBut.set_ | apply keep_drewN | apply keep_drew | apply keep_alloc) | exact HK.out)) hk (.inl rfl)); have n2_ := Aside0.mk (hb); have n3_ := Aside0.mk (hi); clear HO_4; clear HK; clear HB; clear HI0; have HO_4 := n0_; have HK := n1_; have HB := n2_; have HI0 := n3_; clear n0_ n1_ n2_ n3_; (try clear hb); (try clear hb2); (try clear hk); (try clear hi)) | (at_builtin; refine print_append_str w.heap.size rfl (.tmp 71) _ 54 9 5 rfl Tryd.underlying54 Tryd.underlying9 info5 u4 x4_1 t141 rfl rfl ?aO (Below.refl _ _) ?aS ?aL ?_; (case aO => exact (Kd.own_of_R (by (with_reducible repeat (first | apply Kd.R_alloc | apply Kd.R_drewN | apply Kd.R_drew)); exact HO_4.out))); (case aS => exact (keep_size (w := w) (g := g) (row := none) (by repeat (first | (with_reducible first | exact HK.out | apply KeepBut.set_ | apply keep_drewN | apply keep_drew | apply keep_alloc) | exact HK.out)))); (case aL => have := LMc28.out; omega); intro v147 w32 ho0 hb hg; have ho := Kd.R_of_own (h1 := fun _ => rfl) (ok := fun _ => True) ho0 (fun _ _ => trivial); clear ho0; have hat := True.intro; rw [← Ny146.out] at ho; change Kd.R (Kd.int .u8) 5 w32 w.heap.size (fun _ => True) v147 y146 at ho; have n0_ := Aside0.mk (IsS45.grown (by repeat (first | (with_reducible first | exact HI0.out | apply IsS45.alloc | apply IsS45.drewN | apply IsS45.drew | apply IsS45.set_0 | apply IsS45.set_1 | apply IsS45.set_2) | exact HI0.out)) hg (IsS45.own_ne HI0.out HO_4.out (by decide))); have n1_ := Aside0.mk (below_weaken (by repeat (first | (with_reducible first | exact HB.out | apply below_alloc | apply pw_below_drewN | apply below_drew1 | refine below_set ?_ (IsS45.ge HI0.out)) | exact HB.out)) HL.out hb); have n2_ := Aside0.mk (KeepBut.trans (by repeat (first | (with_reducible first | exact HK.out | apply KeepBut.set_ | apply keep_drewN | apply keep_drew | apply keep_alloc) | exact HK.out)) (KeepBut.of_grown hg g) (Kd.R_base2 HO_4.out)); have n3_ := Aside0.mk (ho); clear HI0; clear HB; clear HK; clear HO_4; have HI0 := n0_; have HB := n1_; have HK := n2_; have HO148 := n3_; clear n0_ n1_ n2_ n3_; clear ho hb hg hat)))
                          go_roundg kj8
                          case measure => have := HK1.out; have := HJ8.out; omega
                          case rel => exact ⟨(y146), (t142), (t143), (t144), (t145), (by first | rfl | (simp; done) | (simp [*]; done)), H', ⟨by have := HK1.out; have := HJ8.out; omega⟩, ⟨by (with_reducible repeat (first | apply Kd.R_alloc | apply Kd.R_drewN | apply Kd.R_drew)); exact HO148.out⟩, ⟨by repeat (first | (with_reducible first | exact HI0.out | apply IsS45.alloc | apply IsS45.drewN | apply IsS45.drew | apply IsS45.set_0 | apply IsS45.set_1 | apply IsS45.set_2) | exact HI0.out)⟩, ⟨by repeat (first | (with_reducible first | exact HK.out | apply KeepBut.set_ | apply keep_drewN | apply keep_drew | apply keep_alloc) | exact HK.out)⟩, ⟨by repeat (first | (with_reducible first | exact HB.out | apply below_alloc | apply pw_below_drewN | apply below_drew1 | refine below_set ?_ (IsS45.ge HI0.out)) | exact HB.out)⟩⟩
                        · replace c29 := Bool.eq_false_iff.mpr c29
                          subst c29
                          have H1 : (spec_reading_text.l0 kj8 y146 false t143 t144 t145) = some (r1, r2, r3, r4, r5) := by rw [if_neg (show ¬ (false = true) by decide)] at H; exact H
                          clear H
                          have H := H1
                          clear H1
                          have H' := Aside0.mk H
                          clear H
                          obtain ⟨HGz33, hgz33⟩ := HI0.out
                          have hcz33_0 := cellS45_0 HGz33
                          have hcz33_1 := cellS45_1 HGz33
                          have hcz33_2 := cellS45_2 HGz33
                          have hfz33_0 := blk_frozen HGz33 0
                          have hfz33_1 := blk_frozen HGz33 1
                          have hfz33_2 := blk_frozen HGz33 2
                          clear HGz33 hgz33
                          have p22 : 0 ≤ (x1001_1 : Int) := of_decide_eq_true (by first | (with_reducible assumption) | assumption)
                          have q22 : x1001_1 < (x1000_1.size : Int) := of_decide_eq_true (by first | (with_reducible assumption) | assumption)
                          have hx22 := bt_at x1000_1 x1001_1
                          replace p22 := eq_true p22
                          replace q22 := eq_true q22
                          go_wp2_with (first | (go_at_call 42; (with_reducible refine (spec_reading_escape.calls kj8 g x1000_1 (wrap64 (x1001_1 + 1)) false t141 t142 t143 t144 t145 w0 _ ?side1 ?side2 A27.out).mono ?_); (case side1 => repeat (first | (with_reducible first | exact HI0.out | apply IsS45.alloc | apply IsS45.drewN | apply IsS45.drew | apply IsS45.set_0 | apply IsS45.set_1 | apply IsS45.set_2) | exact HI0.out)); (case side2 => repeat (first | (with_reducible first | exact HB.out | apply below_alloc | apply pw_below_drewN | apply below_drew1 | refine below_set ?_ (IsS45.ge HI0.out)) | exact HB.out)); rintro e w34 ⟨rfl, hi, hb, hk⟩; have n0_ := Aside0.mk (Kd.R_mono (Kd.R_keep (IsS45.apart (show IsS45 w0 _ g x1000_1 (wrap64 (x1001_1 + 1)) false from by repeat (first | (with_reducible first | exact HI0.out | apply IsS45.alloc | apply IsS45.drewN | apply IsS45.drew | apply IsS45.set_0 | apply IsS45.set_1 | apply IsS45.set_2) | exact HI0.out)) (by (with_reducible repeat (first | apply Kd.R_alloc | apply Kd.R_drewN | apply Kd.R_drew)); exact (Kd.R_mono (Kd.R_far (p := ⟨g, 1, none⟩) (IsS45.apart HI0.out HO_4.out (by decide)) (fun _ hk => hk.2) (.int .i64 (wrap64 (x1001_1 + 1)))) (fun _ h_ => h_.1))) (by decide)) hk (fun _ h => h.2)) (fun _ h => h.1)); have n1_ := Aside0.mk (KeepBut.trans (by repeat (first | (with_reducible first | exact HK.out | apply KeepBut.set_ | apply keep_drewN | apply keep_drew | apply keep_alloc) | exact HK.out)) hk (.inl rfl)); have n2_ := Aside0.mk (hb); have n3_ := Aside0.mk (hi); clear HO_4; clear HK; clear HB; clear HI0; have HO_4 := n0_; have HK := n1_; have HB := n2_; have HI0 := n3_; clear n0_ n1_ n2_ n3_; (try clear hb); (try clear hb2); (try clear hk); (try clear hi)) | (at_builtin; refine print_append_str w.heap.size rfl (.tmp 71) _ 54 9 5 rfl Tryd.underlying54 Tryd.underlying9 info5 u4 x4_1 t141 rfl rfl ?aO (Below.refl _ _) ?aS ?aL ?_; (case aO => exact (Kd.own_of_R (by (with_reducible repeat (first | apply Kd.R_alloc | apply Kd.R_drewN | apply Kd.R_drew)); exact HO_4.out))); (case aS => exact (keep_size (w := w) (g := g) (row := none) (by repeat (first | (with_reducible first | exact HK.out | apply KeepBut.set_ | apply keep_drewN | apply keep_drew | apply keep_alloc) | exact HK.out)))); (case aL => have := LMc28.out; omega); intro v147 w35 ho0 hb hg; have ho := Kd.R_of_own (h1 := fun _ => rfl) (ok := fun _ => True) ho0 (fun _ _ => trivial); clear ho0; have hat := True.intro; rw [← Ny146.out] at ho; change Kd.R (Kd.int .u8) 5 w35 w.heap.size (fun _ => True) v147 y146 at ho; have n0_ := Aside0.mk (IsS45.grown (by repeat (first | (with_reducible first | exact HI0.out | apply IsS45.alloc | apply IsS45.drewN | apply IsS45.drew | apply IsS45.set_0 | apply IsS45.set_1 | apply IsS45.set_2) | exact HI0.out)) hg (IsS45.own_ne HI0.out HO_4.out (by decide))); have n1_ := Aside0.mk (below_weaken (by repeat (first | (with_reducible first | exact HB.out | apply below_alloc | apply pw_below_drewN | apply below_drew1 | refine below_set ?_ (IsS45.ge HI0.out)) | exact HB.out)) HL.out hb); have n2_ := Aside0.mk (KeepBut.trans (by repeat (first | (with_reducible first | exact HK.out | apply KeepBut.set_ | apply keep_drewN | apply keep_drew | apply keep_alloc) | exact HK.out)) (KeepBut.of_grown hg g) (Kd.R_base2 HO_4.out)); have n3_ := Aside0.mk (ho); clear HI0; clear HB; clear HK; clear HO_4; have HI0 := n0_; have HB := n1_; have HK := n2_; have HO148 := n3_; clear n0_ n1_ n2_ n3_; clear ho hb hg hat))
                          repeat (go_quiet (first | (go_at_call 42; (with_reducible refine (spec_reading_escape.calls kj8 g x1000_1 (wrap64 (x1001_1 + 1)) false t141 t142 t143 t144 t145 w0 _ ?side1 ?side2 A27.out).mono ?_); (case side1 => repeat (first | (with_reducible first | exact HI0.out | apply IsS45.alloc | apply IsS45.drewN | apply IsS45.drew | apply IsS45.set_0 | apply IsS45.set_1 | apply IsS45.set_2) | exact HI0.out)); (case side2 => repeat (first | (with_reducible first | exact HB.out | apply below_alloc | apply pw_below_drewN | apply below_drew1 | refine below_set ?_ (IsS45.ge HI0.out)) | exact HB.out)); rintro e w34 ⟨rfl, hi, hb, hk⟩; have n0_ := Aside0.mk (Kd.R_mono (Kd.R_keep (IsS45.apart (show IsS45 w0 _ g x1000_1 (wrap64 (x1001_1 + 1)) false from by repeat (first | (with_reducible first | exact HI0.out | apply IsS45.alloc | apply IsS45.drewN | apply IsS45.drew | apply IsS45.set_0 | apply IsS45.set_1 | apply IsS45.set_2) | exact HI0.out)) (by (with_reducible repeat (first | apply Kd.R_alloc | apply Kd.R_drewN | apply Kd.R_drew)); exact (Kd.R_mono (Kd.R_far (p := ⟨g, 1, none⟩) (IsS45.apart HI0.out HO_4.out (by decide)) (fun _ hk => hk.2) (.int .i64 (wrap64 (x1001_1 + 1)))) (fun _ h_ => h_.1))) (by decide)) hk (fun _ h => h.2)) (fun _ h => h.1)); have n1_ := Aside0.mk (KeepBut.trans (by repeat (first | (with_reducible first | exact HK.out | apply KeepBut.set_ | apply keep_drewN | apply keep_drew | apply keep_alloc) | exact HK.out)) hk (.inl rfl)); have n2_ := Aside0.mk (hb); have n3_ := Aside0.mk (hi); clear HO_4; clear HK; clear HB; clear HI0; have HO_4 := n0_; have HK := n1_; have HB := n2_; have HI0 := n3_; clear n0_ n1_ n2_ n3_; (try clear hb); (try clear hb2); (try clear hk); (try clear hi)) | (at_builtin; refine print_append_str w.heap.size rfl (.tmp 71) _ 54 9 5 rfl Tryd.underlying54 Tryd.underlying9 info5 u4 x4_1 t141 rfl rfl ?aO (Below.refl _ _) ?aS ?aL ?_; (case aO => exact (Kd.own_of_R (by (with_reducible repeat (first | apply Kd.R_alloc | apply Kd.R_drewN | apply Kd.R_drew)); exact HO_4.out))); (case aS => exact (keep_size (w := w) (g := g) (row := none) (by repeat (first | (with_reducible first | exact HK.out | apply KeepBut.set_ | apply keep_drewN | apply keep_drew | apply keep_alloc) | exact HK.out)))); (case aL => have := LMc28.out; omega); intro v147 w35 ho0 hb hg; have ho := Kd.R_of_own (h1 := fun _ => rfl) (ok := fun _ => True) ho0 (fun _ _ => trivial); clear ho0; have hat := True.intro; rw [← Ny146.out] at ho; change Kd.R (Kd.int .u8) 5 w35 w.heap.size (fun _ => True) v147 y146 at ho; have n0_ := Aside0.mk (IsS45.grown (by repeat (first | (with_reducible first | exact HI0.out | apply IsS45.alloc | apply IsS45.drewN | apply IsS45.drew | apply IsS45.set_0 | apply IsS45.set_1 | apply IsS45.set_2) | exact HI0.out)) hg (IsS45.own_ne HI0.out HO_4.out (by decide))); have n1_ := Aside0.mk (below_weaken (by repeat (first | (with_reducible first | exact HB.out | apply below_alloc | apply pw_below_drewN | apply below_drew1 | refine below_set ?_ (IsS45.ge HI0.out)) | exact HB.out)) HL.out hb); have n2_ := Aside0.mk (KeepBut.trans (by repeat (first | (with_reducible first | exact HK.out | apply KeepBut.set_ | apply keep_drewN | apply keep_drew | apply keep_alloc) | exact HK.out)) (KeepBut.of_grown hg g) (Kd.R_base2 HO_4.out)); have n3_ := Aside0.mk (ho); clear HI0; clear HB; clear HK; clear HO_4; have HI0 := n0_; have HB := n1_; have HK := n2_; have HO148 := n3_; clear n0_ n1_ n2_ n3_; clear ho hb hg hat)); try go_wp2_with (first | (go_at_call 42; (with_reducible refine (spec_reading_escape.calls kj8 g x1000_1 (wrap64 (x1001_1 + 1)) false t141 t142 t143 t144 t145 w0 _ ?side1 ?side2 A27.out).mono ?_); (case side1 => repeat (first | (with_reducible first | exact HI0.out | apply IsS45.alloc | apply IsS45.drewN | apply IsS45.drew | apply IsS45.set_0 | apply IsS45.set_1 | apply IsS45.set_2) | exact HI0.out)); (case side2 => repeat (first | (with_reducible first | exact HB.out | apply below_alloc | apply pw_below_drewN | apply below_drew1 | refine below_set ?_ (IsS45.ge HI0.out)) | exact HB.out)); rintro e w34 ⟨rfl, hi, hb, hk⟩; have n0_ := Aside0.mk (Kd.R_mono (Kd.R_keep (IsS45.apart (show IsS45 w0 _ g x1000_1 (wrap64 (x1001_1 + 1)) false from by repeat (first | (with_reducible first | exact HI0.out | apply IsS45.alloc | apply IsS45.drewN | apply IsS45.drew | apply IsS45.set_0 | apply IsS45.set_1 | apply IsS45.set_2) | exact HI0.out)) (by (with_reducible repeat (first | apply Kd.R_alloc | apply Kd.R_drewN | apply Kd.R_drew)); exact (Kd.R_mono (Kd.R_far (p := ⟨g, 1, none⟩) (IsS45.apart HI0.out HO_4.out (by decide)) (fun _ hk => hk.2) (.int .i64 (wrap64 (x1001_1 + 1)))) (fun _ h_ => h_.1))) (by decide)) hk (fun _ h => h.2)) (fun _ h => h.1)); have n1_ := Aside0.mk (KeepBut.trans (by repeat (first | (with_reducible first | exact HK.out | apply KeepBut.set_ | apply keep_drewN | apply keep_drew | apply keep_alloc) | exact HK.out)) hk (.inl rfl)); have n2_ := Aside0.mk (hb); have n3_ := Aside0.mk (hi); clear HO_4; clear HK; clear HB; clear HI0; have HO_4 := n0_; have HK := n1_; have HB := n2_; have HI0 := n3_; clear n0_ n1_ n2_ n3_; (try clear hb); (try clear hb2); (try clear hk); (try clear hi)) | (at_builtin; refine print_append_str w.heap.size rfl (.tmp 71) _ 54 9 5 rfl Tryd.underlying54 Tryd.underlying9 info5 u4 x4_1 t141 rfl rfl ?aO (Below.refl _ _) ?aS ?aL ?_; (case aO => exact (Kd.own_of_R (by (with_reducible repeat (first | apply Kd.R_alloc | apply Kd.R_drewN | apply Kd.R_drew)); exact HO_4.out))); (case aS => exact (keep_size (w := w) (g := g) (row := none) (by repeat (first | (with_reducible first | exact HK.out | apply KeepBut.set_ | apply keep_drewN | apply keep_drew | apply keep_alloc) | exact HK.out)))); (case aL => have := LMc28.out; omega); intro v147 w35 ho0 hb hg; have ho := Kd.R_of_own (h1 := fun _ => rfl) (ok := fun _ => True) ho0 (fun _ _ => trivial); clear ho0; have hat := True.intro; rw [← Ny146.out] at ho; change Kd.R (Kd.int .u8) 5 w35 w.heap.size (fun _ => True) v147 y146 at ho; have n0_ := Aside0.mk (IsS45.grown (by repeat (first | (with_reducible first | exact HI0.out | apply IsS45.alloc | apply IsS45.drewN | apply IsS45.drew | apply IsS45.set_0 | apply IsS45.set_1 | apply IsS45.set_2) | exact HI0.out)) hg (IsS45.own_ne HI0.out HO_4.out (by decide))); have n1_ := Aside0.mk (below_weaken (by repeat (first | (with_reducible first | exact HB.out | apply below_alloc | apply pw_below_drewN | apply below_drew1 | refine below_set ?_ (IsS45.ge HI0.out)) | exact HB.out)) HL.out hb); have n2_ := Aside0.mk (KeepBut.trans (by repeat (first | (with_reducible first | exact HK.out | apply KeepBut.set_ | apply keep_drewN | apply keep_drew | apply keep_alloc) | exact HK.out)) (KeepBut.of_grown hg g) (Kd.R_base2 HO_4.out)); have n3_ := Aside0.mk (ho); clear HI0; clear HB; clear HK; clear HO_4; have HI0 := n0_; have HB := n1_; have HK := n2_; have HO148 := n3_; clear n0_ n1_ n2_ n3_; clear ho hb hg hat)))
                          go_roundg kj8
                          case measure => have := HK1.out; have := HJ8.out; omega
                          case rel => exact ⟨(y146), (false), (t143), (t144), (t145), (by first | rfl | (simp; done) | (simp [*]; done)), H', ⟨by have := HK1.out; have := HJ8.out; omega⟩, ⟨by (with_reducible repeat (first | apply Kd.R_alloc | apply Kd.R_drewN | apply Kd.R_drew)); exact HO148.out⟩, ⟨by repeat (first | (with_reducible first | exact HI0.out | apply IsS45.alloc | apply IsS45.drewN | apply IsS45.drew | apply IsS45.set_0 | apply IsS45.set_1 | apply IsS45.set_2) | exact HI0.out)⟩, ⟨by repeat (first | (with_reducible first | exact HK.out | apply KeepBut.set_ | apply keep_drewN | apply keep_drew | apply keep_alloc) | exact HK.out)⟩, ⟨by repeat (first | (with_reducible first | exact HB.out | apply below_alloc | apply pw_below_drewN | apply below_drew1 | refine below_set ?_ (IsS45.ge HI0.out)) | exact HB.out)⟩⟩
                      · rw [if_neg c28] at H
                        exact absurd H (by simp)
                    · rw [if_neg c26] at H
                      have c26b0 : ((bt x1000_1 x1001_1) == 92) = false := beq_eq_false_iff_ne.mpr c26
                      have c26b1 : ((bt x1000_1 x1001_1) != 92) = true := bne_iff_ne.mpr c26
                      by_cases c36 : x4_1.length < 140737488355328
                      · rw [if_pos c36] at H
                        have LMc36 := Aside0.mk c36
                        clear c36
                        obtain ⟨y149, hy149⟩ : ∃ y_ : List Int, y_ = (x4_1 ++ [bt x1000_1 x1001_1]) := ⟨_, rfl⟩
                        replace H : (spec_reading_text.l0 kj8 y149 x5_1 x1000_1 (wrap64 (x1001_1 + 1)) false) = some (r1, r2, r3, r4, r5) := by first | (rw [hy149]; with_reducible exact H) | (have H2_ := (Option.bind_some _ _).symm.trans H; rw [hy149]; with_reducible exact H2_) | (have H2_ := (Option.bind_some _ _).symm.trans H; with_reducible exact H2_) | with_reducible exact H | (rw [hy149]; exact H) | exact H
                        have Ny149 := Aside0.mk hy149
                        clear hy149
                        have H' := Aside0.mk H
                        clear H
                        obtain ⟨HGz37, hgz37⟩ := HI0.out
                        have hcz37_0 := cellS45_0 HGz37
                        have hcz37_1 := cellS45_1 HGz37
                        have hcz37_2 := cellS45_2 HGz37
                        have hfz37_0 := blk_frozen HGz37 0
                        have hfz37_1 := blk_frozen HGz37 1
                        have hfz37_2 := blk_frozen HGz37 2
                        clear HGz37 hgz37
                        have p22 : 0 ≤ (x1001_1 : Int) := of_decide_eq_true (by first | (with_reducible assumption) | assumption)
                        have q22 : x1001_1 < (x1000_1.size : Int) := of_decide_eq_true (by first | (with_reducible assumption) | assumption)
                        have hx22 := bt_at x1000_1 x1001_1
                        replace p22 := eq_true p22
                        replace q22 := eq_true q22
                        go_wp2_with (first | ((with_reducible refine gate_builtin (b := .append) (xs := #[.tmp 62, .tmp 64]) rfl ?_); at_builtin; refine Kd.R_append (Kd.int .u8) w.heap.size rfl (.tmp 62) (.tmp 64) 54 5 (.int .u8 0) 1 rfl Tryd.underlying54 info5 rfl (by decide) (by omega) u4 x4_1 (bt x1000_1 x1001_1) [.int .u8 (bt x1000_1 x1001_1)] (fun _ => True) (fun _ => False) rfl (by first | (go_simp; done) | (go_simp; rfl)) ?aP (fun _ hk => hk.elim) ?aF ?aO (Below.refl _ _) ?aS ?aL ?_; (case aP => exact rfl); (case aF => exact (fun _ _ => trivial)); (case aO => exact (by (with_reducible repeat (first | apply Kd.R_alloc | apply Kd.R_drewN | apply Kd.R_drew)); exact Kd.R_mono (Kd.R_far (p := ⟨g, 1, none⟩) (IsS45.apart HI0.out HO_4.out (by decide)) (fun _ hk => hk.2) (.int .i64 (wrap64 (x1001_1 + 1)))) (fun _ hk => trivial))); (case aS => exact (keep_size (w := w) (g := g) (row := none) (by repeat (first | (with_reducible first | exact HK.out | apply KeepBut.set_ | apply keep_drewN | apply keep_drew | apply keep_alloc) | exact HK.out)))); (case aL => have := LMc36.out; omega); intro v150 w38 ho hb hg hat; rw [← Ny149.out] at ho; have n0_ := Aside0.mk (IsS45.grown (by repeat (first | (with_reducible first | exact HI0.out | apply IsS45.alloc | apply IsS45.drewN | apply IsS45.drew | apply IsS45.set_0 | apply IsS45.set_1 | apply IsS45.set_2) | exact HI0.out)) hg (IsS45.own_ne HI0.out HO_4.out (by decide))); have n1_ := Aside0.mk (below_weaken (by repeat (first | (with_reducible first | exact HB.out | apply below_alloc | apply pw_below_drewN | apply below_drew1 | refine below_set ?_ (IsS45.ge HI0.out)) | exact HB.out)) HL.out hb); have n2_ := Aside0.mk (KeepBut.trans (by repeat (first | (with_reducible first | exact HK.out | apply KeepBut.set_ | apply keep_drewN | apply keep_drew | apply keep_alloc) | exact HK.out)) (KeepBut.of_grown hg g) (Kd.R_base2 HO_4.out)); have n3_ := Aside0.mk (ho); clear HI0; clear HB; clear HK; clear HO_4; have HI0 := n0_; have HB := n1_; have HK := n2_; have HO151 := n3_; clear n0_ n1_ n2_ n3_; clear ho hb hg hat))
                        repeat (go_quiet (first | ((with_reducible refine gate_builtin (b := .append) (xs := #[.tmp 62, .tmp 64]) rfl ?_); at_builtin; refine Kd.R_append (Kd.int .u8) w.heap.size rfl (.tmp 62) (.tmp 64) 54 5 (.int .u8 0) 1 rfl Tryd.underlying54 info5 rfl (by decide) (by omega) u4 x4_1 (bt x1000_1 x1001_1) [.int .u8 (bt x1000_1 x1001_1)] (fun _ => True) (fun _ => False) rfl (by first | (go_simp; done) | (go_simp; rfl)) ?aP (fun _ hk => hk.elim) ?aF ?aO (Below.refl _ _) ?aS ?aL ?_; (case aP => exact rfl); (case aF => exact (fun _ _ => trivial)); (case aO => exact (by (with_reducible repeat (first | apply Kd.R_alloc | apply Kd.R_drewN | apply Kd.R_drew)); exact Kd.R_mono (Kd.R_far (p := ⟨g, 1, none⟩) (IsS45.apart HI0.out HO_4.out (by decide)) (fun _ hk => hk.2) (.int .i64 (wrap64 (x1001_1 + 1)))) (fun _ hk => trivial))); (case aS => exact (keep_size (w := w) (g := g) (row := none) (by repeat (first | (with_reducible first | exact HK.out | apply KeepBut.set_ | apply keep_drewN | apply keep_drew | apply keep_alloc) | exact HK.out)))); (case aL => have := LMc36.out; omega); intro v150 w38 ho hb hg hat; rw [← Ny149.out] at ho; have n0_ := Aside0.mk (IsS45.grown (by repeat (first | (with_reducible first | exact HI0.out | apply IsS45.alloc | apply IsS45.drewN | apply IsS45.drew | apply IsS45.set_0 | apply IsS45.set_1 | apply IsS45.set_2) | exact HI0.out)) hg (IsS45.own_ne HI0.out HO_4.out (by decide))); have n1_ := Aside0.mk (below_weaken (by repeat (first | (with_reducible first | exact HB.out | apply below_alloc | apply pw_below_drewN | apply below_drew1 | refine below_set ?_ (IsS45.ge HI0.out)) | exact HB.out)) HL.out hb); have n2_ := Aside0.mk (KeepBut.trans (by repeat (first | (with_reducible first | exact HK.out | apply KeepBut.set_ | apply keep_drewN | apply keep_drew | apply keep_alloc) | exact HK.out)) (KeepBut.of_grown hg g) (Kd.R_base2 HO_4.out)); have n3_ := Aside0.mk (ho); clear HI0; clear HB; clear HK; clear HO_4; have HI0 := n0_; have HB := n1_; have HK := n2_; have HO151 := n3_; clear n0_ n1_ n2_ n3_; clear ho hb hg hat)); try go_wp2_with (first | ((with_reducible refine gate_builtin (b := .append) (xs := #[.tmp 62, .tmp 64]) rfl ?_); at_builtin; refine Kd.R_append (Kd.int .u8) w.heap.size rfl (.tmp 62) (.tmp 64) 54 5 (.int .u8 0) 1 rfl Tryd.underlying54 info5 rfl (by decide) (by omega) u4 x4_1 (bt x1000_1 x1001_1) [.int .u8 (bt x1000_1 x1001_1)] (fun _ => True) (fun _ => False) rfl (by first | (go_simp; done) | (go_simp; rfl)) ?aP (fun _ hk => hk.elim) ?aF ?aO (Below.refl _ _) ?aS ?aL ?_; (case aP => exact rfl); (case aF => exact (fun _ _ => trivial)); (case aO => exact (by (with_reducible repeat (first | apply Kd.R_alloc | apply Kd.R_drewN | apply Kd.R_drew)); exact Kd.R_mono (Kd.R_far (p := ⟨g, 1, none⟩) (IsS45.apart HI0.out HO_4.out (by decide)) (fun _ hk => hk.2) (.int .i64 (wrap64 (x1001_1 + 1)))) (fun _ hk => trivial))); (case aS => exact (keep_size (w := w) (g := g) (row := none) (by repeat (first | (with_reducible first | exact HK.out | apply KeepBut.set_ | apply keep_drewN | apply keep_drew | apply keep_alloc) | exact HK.out)))); (case aL => have := LMc36.out; omega); intro v150 w38 ho hb hg hat; rw [← Ny149.out] at ho; have n0_ := Aside0.mk (IsS45.grown (by repeat (first | (with_reducible first | exact HI0.out | apply IsS45.alloc | apply IsS45.drewN | apply IsS45.drew | apply IsS45.set_0 | apply IsS45.set_1 | apply IsS45.set_2) | exact HI0.out)) hg (IsS45.own_ne HI0.out HO_4.out (by decide))); have n1_ := Aside0.mk (below_weaken (by repeat (first | (with_reducible first | exact HB.out | apply below_alloc | apply pw_below_drewN | apply below_drew1 | refine below_set ?_ (IsS45.ge HI0.out)) | exact HB.out)) HL.out hb); have n2_ := Aside0.mk (KeepBut.trans (by repeat (first | (with_reducible first | exact HK.out | apply KeepBut.set_ | apply keep_drewN | apply keep_drew | apply keep_alloc) | exact HK.out)) (KeepBut.of_grown hg g) (Kd.R_base2 HO_4.out)); have n3_ := Aside0.mk (ho); clear HI0; clear HB; clear HK; clear HO_4; have HI0 := n0_; have HB := n1_; have HK := n2_; have HO151 := n3_; clear n0_ n1_ n2_ n3_; clear ho hb hg hat)))
                        go_roundg kj8
                        case measure => have := HK1.out; have := HJ8.out; omega
                        case rel => exact ⟨(y149), (x5_1), (x1000_1), (wrap64 (x1001_1 + 1)), (false), (by first | rfl | (simp; done) | (simp [*]; done)), H', ⟨by have := HK1.out; have := HJ8.out; omega⟩, ⟨by (with_reducible repeat (first | apply Kd.R_alloc | apply Kd.R_drewN | apply Kd.R_drew)); exact HO151.out⟩, ⟨by repeat (first | (with_reducible first | exact HI0.out | apply IsS45.alloc | apply IsS45.drewN | apply IsS45.drew | apply IsS45.set_0 | apply IsS45.set_1 | apply IsS45.set_2) | exact HI0.out)⟩, ⟨by repeat (first | (with_reducible first | exact HK.out | apply KeepBut.set_ | apply keep_drewN | apply keep_drew | apply keep_alloc) | exact HK.out)⟩, ⟨by repeat (first | (with_reducible first | exact HB.out | apply below_alloc | apply pw_below_drewN | apply below_drew1 | refine below_set ?_ (IsS45.ge HI0.out)) | exact HB.out)⟩⟩
                      · rw [if_neg c36] at H
                        exact absurd H (by simp)
                · rw [if_neg c21] at H
                  exact absurd H (by simp)
              · rw [if_neg c20] at H
                exact absurd H (by simp)
end Go.Proofs.YtldfejbmdonaoaaDoor.Sp