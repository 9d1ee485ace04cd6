/- Joined by a program of mine from texts of this claim: Sp4. -/
import Derived.Test.YtldfejbmdonaoaaDoorV4
namespace Go.Proofs.YtldfejbmdonaoaaDoor.Sp
open Go.RowKit YtldfejbmdonaoaaDoorW.PrintWords YtldfejbmdonaoaaDoorW.PrintLast YtldfejbmdonaoaaDoorW.PrintMore
attribute [local go_sem] max2_int min2_int max_two min_two max_three min_three max_four min_four   -- for this text's walks alone
set_option linter.unusedVariables false
set_option linter.unusedSimpArgs false
def spec_Rune.f (a0 : Int) : Option (ByteArray) := if a0 < 128 then (some (strOfNums (([(a0) % 256] : List Int)))) else (if a0 < 2048 then (some (strOfNums (([(wrap64 (192 + (wrap64 (Int.tdiv a0 64)))) % 256, (wrap64 (128 + (Int.tmod a0 64))) % 256] : List Int)))) else (if a0 < 65536 then (some (strOfNums (([(wrap64 (224 + (wrap64 (Int.tdiv a0 4096)))) % 256, (wrap64 (128 + (Int.tmod (wrap64 (Int.tdiv a0 64)) 64))) % 256, (wrap64 (128 + (Int.tmod a0 64))) % 256] : List Int)))) else (some (strOfNums (([(wrap64 (240 + (wrap64 (Int.tdiv a0 262144)))) % 256, (wrap64 (128 + (Int.tmod (wrap64 (Int.tdiv a0 4096)) 64))) % 256, (wrap64 (128 + (Int.tmod (wrap64 (Int.tdiv a0 64)) 64))) % 256, (wrap64 (128 + (Int.tmod a0 64))) % 256] : List Int))))))
set_option maxHeartbeats 8000000 in
set_option maxRecDepth 100000 in
theorem spec_Rune.calls (a0 : Int) (r : ByteArray) (w : World) (h : spec_Rune.f a0 = some r) :
    Calls Tryd.prog 52 #[.int .i64 a0] w fun e w' => e = .returned (.string r) ∧ Below w.heap.size w w' := by
  have HB := Aside0.mk (Below.refl w.heap.size w)
  have H : (if a0 < 128 then (some (strOfNums (([(a0) % 256] : List Int)))) else (if a0 < 2048 then (some (strOfNums (([(wrap64 (192 + (wrap64 (Int.tdiv a0 64)))) % 256, (wrap64 (128 + (Int.tmod a0 64))) % 256] : List Int)))) else (if a0 < 65536 then (some (strOfNums (([(wrap64 (224 + (wrap64 (Int.tdiv a0 4096)))) % 256, (wrap64 (128 + (Int.tmod (wrap64 (Int.tdiv a0 64)) 64))) % 256, (wrap64 (128 + (Int.tmod a0 64))) % 256] : List Int)))) else (some (strOfNums (([(wrap64 (240 + (wrap64 (Int.tdiv a0 262144)))) % 256, (wrap64 (128 + (Int.tmod (wrap64 (Int.tdiv a0 4096)) 64))) % 256, (wrap64 (128 + (Int.tmod (wrap64 (Int.tdiv a0 64)) 64))) % 256, (wrap64 (128 + (Int.tmod a0 64))) % 256] : List Int))))))) = some r := h
  clear h
  by_cases c2 : a0 < 128
  · rw [if_pos c2] at H
    have c2b0 : decide (a0 < 128) = true := decide_eq_true c2
    clear c2
    obtain ⟨y105, hy105⟩ : ∃ y_ : List Int, y_ = (([(a0) % 256] : List Int)) := ⟨_, rfl⟩
    replace H : (some (strOfNums y105)) = some r := by first | (rw [hy105]; with_reducible exact H) | (have H2_ := (Option.bind_some _ _).symm.trans H; rw [hy105]; with_reducible exact H2_) | (have H2_ := (Option.bind_some _ _).symm.trans H; with_reducible exact H2_) | with_reducible exact H | (rw [hy105]; exact H) | exact H
    have Ny105 := Aside0.mk hy105
    clear hy105
    obtain rfl := Option.some.inj H
    go_enter Tryd.func52, Tryd.ntmps52
    go_wp2_with (first | ((with_reducible refine gate_dst (N := 8) rfl ?_); refine Kd.R_lit (Kd.int .u8) _ 5 ?hg (N := 8) ?hd (xs := ([(a0) % 256] : List Int)) (inner := [.int .u8 ((a0) % 256)]) (ok := fun _ => True) (okp := fun _ => True) ?hr ?hp (fun _ hk => hk) trivial (Below.refl _ _) (Nat.le_refl _) (by simp) ?_; (case hd => rfl); (case hg => rfl); (case hr => first | (go_simp; done) | (go_simp; rfl)); (case hp => exact (Reps.one (show Kd.M (Kd.int .u8) _ _ _ ((a0) % 256) [.int .u8 ((a0) % 256)] from rfl) (Reps.none _ _))); intro v106 w3 ho4 hb hg_ hnew_; clear hg_ hnew_; (first | rw [← Ny105.out] at ho4 | (simp only [Int.reduceToNat] at ho4; rw [← Ny105.out] at ho4)); have n0_ := Aside0.mk (Kd.R_lower ho4 (below_size (by repeat (first | (with_reducible first | exact HB.out | apply below_alloc | apply pw_below_drewN | apply below_drew1) | exact HB.out)))); have n1_ := Aside0.mk (below_step (by repeat (first | (with_reducible first | exact HB.out | apply below_alloc | apply pw_below_drewN | apply below_drew1) | exact HB.out)) hb); clear HB; have HO107 := n0_; have HB := n1_; clear n0_ n1_; clear hb ho4; have hcv5 := own_string (P := Tryd.prog) Tryd.underlying54 Tryd.underlying5 Tryd.underlying9 (Kd.own_of_R HO107.out)))
    go_ret
    exact ⟨by first | rfl | (simp [errW_none, errW_some] <;> rfl) | (simp [*, errW_none, errW_some] <;> rfl), by repeat (first | (with_reducible first | exact HB.out | apply below_alloc | apply pw_below_drewN | apply below_drew1) | exact HB.out)⟩
  · rw [if_neg c2] at H
    have c2b0 : decide (a0 < 128) = false := decide_eq_false c2
    clear c2
    by_cases c6 : a0 < 2048
    · rw [if_pos c6] at H
      have c6b0 : decide (a0 < 2048) = true := decide_eq_true c6
      clear c6
      obtain ⟨y108, hy108⟩ : ∃ y_ : List Int, y_ = (([(wrap64 (192 + (wrap64 (Int.tdiv a0 64)))) % 256, (wrap64 (128 + (Int.tmod a0 64))) % 256] : List Int)) := ⟨_, rfl⟩
      replace H : (some (strOfNums y108)) = some r := by first | (rw [hy108]; with_reducible exact H) | (have H2_ := (Option.bind_some _ _).symm.trans H; rw [hy108]; with_reducible exact H2_) | (have H2_ := (Option.bind_some _ _).symm.trans H; with_reducible exact H2_) | with_reducible exact H | (rw [hy108]; exact H) | exact H
      have Ny108 := Aside0.mk hy108
      clear hy108
      obtain rfl := Option.some.inj H
      go_enter Tryd.func52, Tryd.ntmps52
      go_wp2_with (first | ((with_reducible refine gate_dst (N := 21) rfl ?_); refine Kd.R_lit (Kd.int .u8) _ 5 ?hg (N := 21) ?hd (xs := ([(wrap64 (192 + (wrap64 (Int.tdiv a0 64)))) % 256, (wrap64 (128 + (Int.tmod a0 64))) % 256] : List Int)) (inner := [.int .u8 ((wrap64 (192 + (wrap64 (Int.tdiv a0 64)))) % 256), .int .u8 ((wrap64 (128 + (Int.tmod a0 64))) % 256)]) (ok := fun _ => True) (okp := fun _ => True) ?hr ?hp (fun _ hk => hk) trivial (Below.refl _ _) (Nat.le_refl _) (by simp) ?_; (case hd => rfl); (case hg => rfl); (case hr => first | (go_simp; done) | (go_simp; rfl)); (case hp => exact (Reps.one (show Kd.M (Kd.int .u8) _ _ _ ((wrap64 (192 + (wrap64 (Int.tdiv a0 64)))) % 256) [.int .u8 ((wrap64 (192 + (wrap64 (Int.tdiv a0 64)))) % 256)] from rfl) (Reps.one (show Kd.M (Kd.int .u8) _ _ _ ((wrap64 (128 + (Int.tmod a0 64))) % 256) [.int .u8 ((wrap64 (128 + (Int.tmod a0 64))) % 256)] from rfl) (Reps.none _ _)))); intro v109 w7 ho8 hb hg_ hnew_; clear hg_ hnew_; (first | rw [← Ny108.out] at ho8 | (simp only [Int.reduceToNat] at ho8; rw [← Ny108.out] at ho8)); have n0_ := Aside0.mk (Kd.R_lower ho8 (below_size (by repeat (first | (with_reducible first | exact HB.out | apply below_alloc | apply pw_below_drewN | apply below_drew1) | exact HB.out)))); have n1_ := Aside0.mk (below_step (by repeat (first | (with_reducible first | exact HB.out | apply below_alloc | apply pw_below_drewN | apply below_drew1) | exact HB.out)) hb); clear HB; have HO110 := n0_; have HB := n1_; clear n0_ n1_; clear hb ho8; have hcv9 := own_string (P := Tryd.prog) Tryd.underlying54 Tryd.underlying5 Tryd.underlying9 (Kd.own_of_R HO110.out)))
      go_ret
      exact ⟨by first | rfl | (simp [errW_none, errW_some] <;> rfl) | (simp [*, errW_none, errW_some] <;> rfl), by repeat (first | (with_reducible first | exact HB.out | apply below_alloc | apply pw_below_drewN | apply below_drew1) | exact HB.out)⟩
    · rw [if_neg c6] at H
      have c6b0 : decide (a0 < 2048) = false := decide_eq_false c6
      clear c6
      by_cases c10 : a0 < 65536
      · rw [if_pos c10] at H
        have c10b0 : decide (a0 < 65536) = true := decide_eq_true c10
        clear c10
        obtain ⟨y111, hy111⟩ : ∃ y_ : List Int, y_ = (([(wrap64 (224 + (wrap64 (Int.tdiv a0 4096)))) % 256, (wrap64 (128 + (Int.tmod (wrap64 (Int.tdiv a0 64)) 64))) % 256, (wrap64 (128 + (Int.tmod a0 64))) % 256] : List Int)) := ⟨_, rfl⟩
        replace H : (some (strOfNums y111)) = some r := by first | (rw [hy111]; with_reducible exact H) | (have H2_ := (Option.bind_some _ _).symm.trans H; rw [hy111]; with_reducible exact H2_) | (have H2_ := (Option.bind_some _ _).symm.trans H; with_reducible exact H2_) | with_reducible exact H | (rw [hy111]; exact H) | exact H
        have Ny111 := Aside0.mk hy111
        clear hy111
        obtain rfl := Option.some.inj H
        go_enter Tryd.func52, Tryd.ntmps52
        go_wp2_with (first | ((with_reducible refine gate_dst (N := 39) rfl ?_); refine Kd.R_lit (Kd.int .u8) _ 5 ?hg (N := 39) ?hd (xs := ([(wrap64 (224 + (wrap64 (Int.tdiv a0 4096)))) % 256, (wrap64 (128 + (Int.tmod (wrap64 (Int.tdiv a0 64)) 64))) % 256, (wrap64 (128 + (Int.tmod a0 64))) % 256] : List Int)) (inner := [.int .u8 ((wrap64 (224 + (wrap64 (Int.tdiv a0 4096)))) % 256), .int .u8 ((wrap64 (128 + (Int.tmod (wrap64 (Int.tdiv a0 64)) 64))) % 256), .int .u8 ((wrap64 (128 + (Int.tmod a0 64))) % 256)]) (ok := fun _ => True) (okp := fun _ => True) ?hr ?hp (fun _ hk => hk) trivial (Below.refl _ _) (Nat.le_refl _) (by simp) ?_; (case hd => rfl); (case hg => rfl); (case hr => first | (go_simp; done) | (go_simp; rfl)); (case hp => exact (Reps.one (show Kd.M (Kd.int .u8) _ _ _ ((wrap64 (224 + (wrap64 (Int.tdiv a0 4096)))) % 256) [.int .u8 ((wrap64 (224 + (wrap64 (Int.tdiv a0 4096)))) % 256)] from rfl) (Reps.one (show Kd.M (Kd.int .u8) _ _ _ ((wrap64 (128 + (Int.tmod (wrap64 (Int.tdiv a0 64)) 64))) % 256) [.int .u8 ((wrap64 (128 + (Int.tmod (wrap64 (Int.tdiv a0 64)) 64))) % 256)] from rfl) (Reps.one (show Kd.M (Kd.int .u8) _ _ _ ((wrap64 (128 + (Int.tmod a0 64))) % 256) [.int .u8 ((wrap64 (128 + (Int.tmod a0 64))) % 256)] from rfl) (Reps.none _ _))))); intro v112 w11 ho12 hb hg_ hnew_; clear hg_ hnew_; (first | rw [← Ny111.out] at ho12 | (simp only [Int.reduceToNat] at ho12; rw [← Ny111.out] at ho12)); have n0_ := Aside0.mk (Kd.R_lower ho12 (below_size (by repeat (first | (with_reducible first | exact HB.out | apply below_alloc | apply pw_below_drewN | apply below_drew1) | exact HB.out)))); have n1_ := Aside0.mk (below_step (by repeat (first | (with_reducible first | exact HB.out | apply below_alloc | apply pw_below_drewN | apply below_drew1) | exact HB.out)) hb); clear HB; have HO113 := n0_; have HB := n1_; clear n0_ n1_; clear hb ho12; have hcv13 := own_string (P := Tryd.prog) Tryd.underlying54 Tryd.underlying5 Tryd.underlying9 (Kd.own_of_R HO113.out)))
        go_ret
        exact ⟨by first | rfl | (simp [errW_none, errW_some] <;> rfl) | (simp [*, errW_none, errW_some] <;> rfl), by repeat (first | (with_reducible first | exact HB.out | apply below_alloc | apply pw_below_drewN | apply below_drew1) | exact HB.out)⟩
      · rw [if_neg c10] at H
        have c10b0 : decide (a0 < 65536) = false := decide_eq_false c10
        clear c10
        obtain ⟨y114, hy114⟩ : ∃ y_ : List Int, y_ = (([(wrap64 (240 + (wrap64 (Int.tdiv a0 262144)))) % 256, (wrap64 (128 + (Int.tmod (wrap64 (Int.tdiv a0 4096)) 64))) % 256, (wrap64 (128 + (Int.tmod (wrap64 (Int.tdiv a0 64)) 64))) % 256, (wrap64 (128 + (Int.tmod a0 64))) % 256] : List Int)) := ⟨_, rfl⟩
        replace H : (some (strOfNums y114)) = some r := by first | (rw [hy114]; with_reducible exact H) | (have H2_ := (Option.bind_some _ _).symm.trans H; rw [hy114]; with_reducible exact H2_) | (have H2_ := (Option.bind_some _ _).symm.trans H; with_reducible exact H2_) | with_reducible exact H | (rw [hy114]; exact H) | exact H
        have Ny114 := Aside0.mk hy114
        clear hy114
        obtain rfl := Option.some.inj H
        go_enter Tryd.func52, Tryd.ntmps52
        go_wp2_with (first | ((with_reducible refine gate_dst (N := 59) rfl ?_); refine Kd.R_lit (Kd.int .u8) _ 5 ?hg (N := 59) ?hd (xs := ([(wrap64 (240 + (wrap64 (Int.tdiv a0 262144)))) % 256, (wrap64 (128 + (Int.tmod (wrap64 (Int.tdiv a0 4096)) 64))) % 256, (wrap64 (128 + (Int.tmod (wrap64 (Int.tdiv a0 64)) 64))) % 256, (wrap64 (128 + (Int.tmod a0 64))) % 256] : List Int)) (inner := [.int .u8 ((wrap64 (240 + (wrap64 (Int.tdiv a0 262144)))) % 256), .int .u8 ((wrap64 (128 + (Int.tmod (wrap64 (Int.tdiv a0 4096)) 64))) % 256), .int .u8 ((wrap64 (128 + (Int.tmod (wrap64 (Int.tdiv a0 64)) 64))) % 256), .int .u8 ((wrap64 (128 + (Int.tmod a0 64))) % 256)]) (ok := fun _ => True) (okp := fun _ => True) ?hr ?hp (fun _ hk => hk) trivial (Below.refl _ _) (Nat.le_refl _) (by simp) ?_; (case hd => rfl); (case hg => rfl); (case hr => first | (go_simp; done) | (go_simp; rfl)); (case hp => exact (Reps.one (show Kd.M (Kd.int .u8) _ _ _ ((wrap64 (240 + (wrap64 (Int.tdiv a0 262144)))) % 256) [.int .u8 ((wrap64 (240 + (wrap64 (Int.tdiv a0 262144)))) % 256)] from rfl) (Reps.one (show Kd.M (Kd.int .u8) _ _ _ ((wrap64 (128 + (Int.tmod (wrap64 (Int.tdiv a0 4096)) 64))) % 256) [.int .u8 ((wrap64 (128 + (Int.tmod (wrap64 (Int.tdiv a0 4096)) 64))) % 256)] from rfl) (Reps.one (show Kd.M (Kd.int .u8) _ _ _ ((wrap64 (128 + (Int.tmod (wrap64 (Int.tdiv a0 64)) 64))) % 256) [.int .u8 ((wrap64 (128 + (Int.tmod (wrap64 (Int.tdiv a0 64)) 64))) % 256)] from rfl) (Reps.one (show Kd.M (Kd.int .u8) _ _ _ ((wrap64 (128 + (Int.tmod a0 64))) % 256) [.int .u8 ((wrap64 (128 + (Int.tmod a0 64))) % 256)] from rfl) (Reps.none _ _)))))); intro v115 w14 ho15 hb hg_ hnew_; clear hg_ hnew_; (first | rw [← Ny114.out] at ho15 | (simp only [Int.reduceToNat] at ho15; rw [← Ny114.out] at ho15)); have n0_ := Aside0.mk (Kd.R_lower ho15 (below_size (by repeat (first | (with_reducible first | exact HB.out | apply below_alloc | apply pw_below_drewN | apply below_drew1) | exact HB.out)))); have n1_ := Aside0.mk (below_step (by repeat (first | (with_reducible first | exact HB.out | apply below_alloc | apply pw_below_drewN | apply below_drew1) | exact HB.out)) hb); clear HB; have HO116 := n0_; have HB := n1_; clear n0_ n1_; clear hb ho15; have hcv16 := own_string (P := Tryd.prog) Tryd.underlying54 Tryd.underlying5 Tryd.underlying9 (Kd.own_of_R HO116.out)))
        go_ret
        exact ⟨by first | rfl | (simp [errW_none, errW_some] <;> rfl) | (simp [*, errW_none, errW_some] <;> rfl), by repeat (first | (with_reducible first | exact HB.out | apply below_alloc | apply pw_below_drewN | apply below_drew1) | exact HB.out)⟩
end Go.Proofs.YtldfejbmdonaoaaDoor.Sp