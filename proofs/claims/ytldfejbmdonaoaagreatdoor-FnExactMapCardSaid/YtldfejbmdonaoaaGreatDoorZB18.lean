/- Joined by a program of mine from texts of this claim: Sp2, Sp3. -/
import Derived.Test.YtldfejbmdonaoaaGreatDoorZB17
namespace Go.Proofs.YtldfejbmdonaoaaGreatDoor.Sp
open Go.RowKit YtldfejbmdonaoaaGreatDoorW.PrintWords YtldfejbmdonaoaaGreatDoorW.PrintLast YtldfejbmdonaoaaGreatDoorW.PrintMore
attribute [local go_sem] max2_int min2_int max_two min_two max_three min_three max_four min_four   -- for this text's walks alone
set_option linter.unusedVariables false
set_option linter.unusedSimpArgs false
def spec_Rune.f (a0 : Int) : Option (ByteArray) := if a0 < 128 then (some (strOfNums (([(a0) % 256] : List Int)))) else (if a0 < 2048 then (some (strOfNums (([(wrap64 (192 + (wrap64 (Int.tdiv a0 64)))) % 256, (wrap64 (128 + (Int.tmod a0 64))) % 256] : List Int)))) else (if a0 < 65536 then (some (strOfNums (([(wrap64 (224 + (wrap64 (Int.tdiv a0 4096)))) % 256, (wrap64 (128 + (Int.tmod (wrap64 (Int.tdiv a0 64)) 64))) % 256, (wrap64 (128 + (Int.tmod a0 64))) % 256] : List Int)))) else (some (strOfNums (([(wrap64 (240 + (wrap64 (Int.tdiv a0 262144)))) % 256, (wrap64 (128 + (Int.tmod (wrap64 (Int.tdiv a0 4096)) 64))) % 256, (wrap64 (128 + (Int.tmod (wrap64 (Int.tdiv a0 64)) 64))) % 256, (wrap64 (128 + (Int.tmod a0 64))) % 256] : List Int))))))
set_option maxHeartbeats 8000000 in
set_option maxRecDepth 100000 in
theorem spec_Rune.calls (a0 : Int) (r : ByteArray) (w : World) (h : spec_Rune.f a0 = some r) :
    Calls Tryz.prog 31 #[.int .i64 a0] w fun e w' => e = .returned (.string r) ∧ Below w.heap.size w w' := by
  have HB := Aside0.mk (Below.refl w.heap.size w)
  have H : (if a0 < 128 then (some (strOfNums (([(a0) % 256] : List Int)))) else (if a0 < 2048 then (some (strOfNums (([(wrap64 (192 + (wrap64 (Int.tdiv a0 64)))) % 256, (wrap64 (128 + (Int.tmod a0 64))) % 256] : List Int)))) else (if a0 < 65536 then (some (strOfNums (([(wrap64 (224 + (wrap64 (Int.tdiv a0 4096)))) % 256, (wrap64 (128 + (Int.tmod (wrap64 (Int.tdiv a0 64)) 64))) % 256, (wrap64 (128 + (Int.tmod a0 64))) % 256] : List Int)))) else (some (strOfNums (([(wrap64 (240 + (wrap64 (Int.tdiv a0 262144)))) % 256, (wrap64 (128 + (Int.tmod (wrap64 (Int.tdiv a0 4096)) 64))) % 256, (wrap64 (128 + (Int.tmod (wrap64 (Int.tdiv a0 64)) 64))) % 256, (wrap64 (128 + (Int.tmod a0 64))) % 256] : List Int))))))) = some r := h
  clear h
  by_cases c2 : a0 < 128
  · rw [if_pos c2] at H
    have c2b0 : decide (a0 < 128) = true := decide_eq_true c2
    clear c2
    obtain ⟨y101, hy101⟩ : ∃ y_ : List Int, y_ = (([(a0) % 256] : List Int)) := ⟨_, rfl⟩
    replace H : (some (strOfNums y101)) = some r := by first | (rw [hy101]; with_reducible exact H) | (have H2_ := (Option.bind_some _ _).symm.trans H; rw [hy101]; with_reducible exact H2_) | (have H2_ := (Option.bind_some _ _).symm.trans H; with_reducible exact H2_) | with_reducible exact H | (rw [hy101]; exact H) | exact H
    have Ny101 := Aside0.mk hy101
    clear hy101
    obtain rfl := Option.some.inj H
    go_enter Tryz.func31, Tryz.ntmps31
    go_wp2_with (first | ((with_reducible refine gate_dst (N := 8) rfl ?_); refine Kd.R_lit (Kd.int .u8) _ 5 ?hg (N := 8) ?hd (xs := ([(a0) % 256] : List Int)) (inner := [.int .u8 ((a0) % 256)]) (ok := fun _ => True) (okp := fun _ => True) ?hr ?hp (fun _ hk => hk) trivial (Below.refl _ _) (Nat.le_refl _) (by simp) ?_; (case hd => rfl); (case hg => rfl); (case hr => first | (go_simp; done) | (go_simp; rfl)); (case hp => exact (Reps.one (show Kd.M (Kd.int .u8) _ _ _ ((a0) % 256) [.int .u8 ((a0) % 256)] from rfl) (Reps.none _ _))); intro v102 w3 ho4 hb hg_ hnew_; clear hg_ hnew_; (first | rw [← Ny101.out] at ho4 | (simp only [Int.reduceToNat] at ho4; rw [← Ny101.out] at ho4)); have n0_ := Aside0.mk (Kd.R_lower ho4 (below_size (by repeat (first | (with_reducible first | exact HB.out | apply below_alloc | apply pw_below_drewN | apply below_drew1) | exact HB.out)))); have n1_ := Aside0.mk (below_step (by repeat (first | (with_reducible first | exact HB.out | apply below_alloc | apply pw_below_drewN | apply below_drew1) | exact HB.out)) hb); clear HB; have HO103 := n0_; have HB := n1_; clear n0_ n1_; clear hb ho4; have hcv5 := own_string (P := Tryz.prog) Tryz.underlying53 Tryz.underlying5 Tryz.underlying9 (Kd.own_of_R HO103.out)))
    go_ret
    exact ⟨by first | rfl | (simp [errW_none, errW_some] <;> rfl) | (simp [*, errW_none, errW_some] <;> rfl), by repeat (first | (with_reducible first | exact HB.out | apply below_alloc | apply pw_below_drewN | apply below_drew1) | exact HB.out)⟩
  · rw [if_neg c2] at H
    have c2b0 : decide (a0 < 128) = false := decide_eq_false c2
    clear c2
    by_cases c6 : a0 < 2048
    · rw [if_pos c6] at H
      have c6b0 : decide (a0 < 2048) = true := decide_eq_true c6
      clear c6
      obtain ⟨y104, hy104⟩ : ∃ y_ : List Int, y_ = (([(wrap64 (192 + (wrap64 (Int.tdiv a0 64)))) % 256, (wrap64 (128 + (Int.tmod a0 64))) % 256] : List Int)) := ⟨_, rfl⟩
      replace H : (some (strOfNums y104)) = some r := by first | (rw [hy104]; with_reducible exact H) | (have H2_ := (Option.bind_some _ _).symm.trans H; rw [hy104]; with_reducible exact H2_) | (have H2_ := (Option.bind_some _ _).symm.trans H; with_reducible exact H2_) | with_reducible exact H | (rw [hy104]; exact H) | exact H
      have Ny104 := Aside0.mk hy104
      clear hy104
      obtain rfl := Option.some.inj H
      go_enter Tryz.func31, Tryz.ntmps31
      go_wp2_with (first | ((with_reducible refine gate_dst (N := 21) rfl ?_); refine Kd.R_lit (Kd.int .u8) _ 5 ?hg (N := 21) ?hd (xs := ([(wrap64 (192 + (wrap64 (Int.tdiv a0 64)))) % 256, (wrap64 (128 + (Int.tmod a0 64))) % 256] : List Int)) (inner := [.int .u8 ((wrap64 (192 + (wrap64 (Int.tdiv a0 64)))) % 256), .int .u8 ((wrap64 (128 + (Int.tmod a0 64))) % 256)]) (ok := fun _ => True) (okp := fun _ => True) ?hr ?hp (fun _ hk => hk) trivial (Below.refl _ _) (Nat.le_refl _) (by simp) ?_; (case hd => rfl); (case hg => rfl); (case hr => first | (go_simp; done) | (go_simp; rfl)); (case hp => exact (Reps.one (show Kd.M (Kd.int .u8) _ _ _ ((wrap64 (192 + (wrap64 (Int.tdiv a0 64)))) % 256) [.int .u8 ((wrap64 (192 + (wrap64 (Int.tdiv a0 64)))) % 256)] from rfl) (Reps.one (show Kd.M (Kd.int .u8) _ _ _ ((wrap64 (128 + (Int.tmod a0 64))) % 256) [.int .u8 ((wrap64 (128 + (Int.tmod a0 64))) % 256)] from rfl) (Reps.none _ _)))); intro v105 w7 ho8 hb hg_ hnew_; clear hg_ hnew_; (first | rw [← Ny104.out] at ho8 | (simp only [Int.reduceToNat] at ho8; rw [← Ny104.out] at ho8)); have n0_ := Aside0.mk (Kd.R_lower ho8 (below_size (by repeat (first | (with_reducible first | exact HB.out | apply below_alloc | apply pw_below_drewN | apply below_drew1) | exact HB.out)))); have n1_ := Aside0.mk (below_step (by repeat (first | (with_reducible first | exact HB.out | apply below_alloc | apply pw_below_drewN | apply below_drew1) | exact HB.out)) hb); clear HB; have HO106 := n0_; have HB := n1_; clear n0_ n1_; clear hb ho8; have hcv9 := own_string (P := Tryz.prog) Tryz.underlying53 Tryz.underlying5 Tryz.underlying9 (Kd.own_of_R HO106.out)))
      go_ret
      exact ⟨by first | rfl | (simp [errW_none, errW_some] <;> rfl) | (simp [*, errW_none, errW_some] <;> rfl), by repeat (first | (with_reducible first | exact HB.out | apply below_alloc | apply pw_below_drewN | apply below_drew1) | exact HB.out)⟩
    · rw [if_neg c6] at H
      have c6b0 : decide (a0 < 2048) = false := decide_eq_false c6
      clear c6
      by_cases c10 : a0 < 65536
      · rw [if_pos c10] at H
        have c10b0 : decide (a0 < 65536) = true := decide_eq_true c10
        clear c10
        obtain ⟨y107, hy107⟩ : ∃ y_ : List Int, y_ = (([(wrap64 (224 + (wrap64 (Int.tdiv a0 4096)))) % 256, (wrap64 (128 + (Int.tmod (wrap64 (Int.tdiv a0 64)) 64))) % 256, (wrap64 (128 + (Int.tmod a0 64))) % 256] : List Int)) := ⟨_, rfl⟩
        replace H : (some (strOfNums y107)) = some r := by first | (rw [hy107]; with_reducible exact H) | (have H2_ := (Option.bind_some _ _).symm.trans H; rw [hy107]; with_reducible exact H2_) | (have H2_ := (Option.bind_some _ _).symm.trans H; with_reducible exact H2_) | with_reducible exact H | (rw [hy107]; exact H) | exact H
        have Ny107 := Aside0.mk hy107
        clear hy107
        obtain rfl := Option.some.inj H
        go_enter Tryz.func31, Tryz.ntmps31
        go_wp2_with (first | ((with_reducible refine gate_dst (N := 39) rfl ?_); refine Kd.R_lit (Kd.int .u8) _ 5 ?hg (N := 39) ?hd (xs := ([(wrap64 (224 + (wrap64 (Int.tdiv a0 4096)))) % 256, (wrap64 (128 + (Int.tmod (wrap64 (Int.tdiv a0 64)) 64))) % 256, (wrap64 (128 + (Int.tmod a0 64))) % 256] : List Int)) (inner := [.int .u8 ((wrap64 (224 + (wrap64 (Int.tdiv a0 4096)))) % 256), .int .u8 ((wrap64 (128 + (Int.tmod (wrap64 (Int.tdiv a0 64)) 64))) % 256), .int .u8 ((wrap64 (128 + (Int.tmod a0 64))) % 256)]) (ok := fun _ => True) (okp := fun _ => True) ?hr ?hp (fun _ hk => hk) trivial (Below.refl _ _) (Nat.le_refl _) (by simp) ?_; (case hd => rfl); (case hg => rfl); (case hr => first | (go_simp; done) | (go_simp; rfl)); (case hp => exact (Reps.one (show Kd.M (Kd.int .u8) _ _ _ ((wrap64 (224 + (wrap64 (Int.tdiv a0 4096)))) % 256) [.int .u8 ((wrap64 (224 + (wrap64 (Int.tdiv a0 4096)))) % 256)] from rfl) (Reps.one (show Kd.M (Kd.int .u8) _ _ _ ((wrap64 (128 + (Int.tmod (wrap64 (Int.tdiv a0 64)) 64))) % 256) [.int .u8 ((wrap64 (128 + (Int.tmod (wrap64 (Int.tdiv a0 64)) 64))) % 256)] from rfl) (Reps.one (show Kd.M (Kd.int .u8) _ _ _ ((wrap64 (128 + (Int.tmod a0 64))) % 256) [.int .u8 ((wrap64 (128 + (Int.tmod a0 64))) % 256)] from rfl) (Reps.none _ _))))); intro v108 w11 ho12 hb hg_ hnew_; clear hg_ hnew_; (first | rw [← Ny107.out] at ho12 | (simp only [Int.reduceToNat] at ho12; rw [← Ny107.out] at ho12)); have n0_ := Aside0.mk (Kd.R_lower ho12 (below_size (by repeat (first | (with_reducible first | exact HB.out | apply below_alloc | apply pw_below_drewN | apply below_drew1) | exact HB.out)))); have n1_ := Aside0.mk (below_step (by repeat (first | (with_reducible first | exact HB.out | apply below_alloc | apply pw_below_drewN | apply below_drew1) | exact HB.out)) hb); clear HB; have HO109 := n0_; have HB := n1_; clear n0_ n1_; clear hb ho12; have hcv13 := own_string (P := Tryz.prog) Tryz.underlying53 Tryz.underlying5 Tryz.underlying9 (Kd.own_of_R HO109.out)))
        go_ret
        exact ⟨by first | rfl | (simp [errW_none, errW_some] <;> rfl) | (simp [*, errW_none, errW_some] <;> rfl), by repeat (first | (with_reducible first | exact HB.out | apply below_alloc | apply pw_below_drewN | apply below_drew1) | exact HB.out)⟩
      · rw [if_neg c10] at H
        have c10b0 : decide (a0 < 65536) = false := decide_eq_false c10
        clear c10
        obtain ⟨y110, hy110⟩ : ∃ y_ : List Int, y_ = (([(wrap64 (240 + (wrap64 (Int.tdiv a0 262144)))) % 256, (wrap64 (128 + (Int.tmod (wrap64 (Int.tdiv a0 4096)) 64))) % 256, (wrap64 (128 + (Int.tmod (wrap64 (Int.tdiv a0 64)) 64))) % 256, (wrap64 (128 + (Int.tmod a0 64))) % 256] : List Int)) := ⟨_, rfl⟩
        replace H : (some (strOfNums y110)) = some r := by first | (rw [hy110]; with_reducible exact H) | (have H2_ := (Option.bind_some _ _).symm.trans H; rw [hy110]; with_reducible exact H2_) | (have H2_ := (Option.bind_some _ _).symm.trans H; with_reducible exact H2_) | with_reducible exact H | (rw [hy110]; exact H) | exact H
        have Ny110 := Aside0.mk hy110
        clear hy110
        obtain rfl := Option.some.inj H
        go_enter Tryz.func31, Tryz.ntmps31
        go_wp2_with (first | ((with_reducible refine gate_dst (N := 59) rfl ?_); refine Kd.R_lit (Kd.int .u8) _ 5 ?hg (N := 59) ?hd (xs := ([(wrap64 (240 + (wrap64 (Int.tdiv a0 262144)))) % 256, (wrap64 (128 + (Int.tmod (wrap64 (Int.tdiv a0 4096)) 64))) % 256, (wrap64 (128 + (Int.tmod (wrap64 (Int.tdiv a0 64)) 64))) % 256, (wrap64 (128 + (Int.tmod a0 64))) % 256] : List Int)) (inner := [.int .u8 ((wrap64 (240 + (wrap64 (Int.tdiv a0 262144)))) % 256), .int .u8 ((wrap64 (128 + (Int.tmod (wrap64 (Int.tdiv a0 4096)) 64))) % 256), .int .u8 ((wrap64 (128 + (Int.tmod (wrap64 (Int.tdiv a0 64)) 64))) % 256), .int .u8 ((wrap64 (128 + (Int.tmod a0 64))) % 256)]) (ok := fun _ => True) (okp := fun _ => True) ?hr ?hp (fun _ hk => hk) trivial (Below.refl _ _) (Nat.le_refl _) (by simp) ?_; (case hd => rfl); (case hg => rfl); (case hr => first | (go_simp; done) | (go_simp; rfl)); (case hp => exact (Reps.one (show Kd.M (Kd.int .u8) _ _ _ ((wrap64 (240 + (wrap64 (Int.tdiv a0 262144)))) % 256) [.int .u8 ((wrap64 (240 + (wrap64 (Int.tdiv a0 262144)))) % 256)] from rfl) (Reps.one (show Kd.M (Kd.int .u8) _ _ _ ((wrap64 (128 + (Int.tmod (wrap64 (Int.tdiv a0 4096)) 64))) % 256) [.int .u8 ((wrap64 (128 + (Int.tmod (wrap64 (Int.tdiv a0 4096)) 64))) % 256)] from rfl) (Reps.one (show Kd.M (Kd.int .u8) _ _ _ ((wrap64 (128 + (Int.tmod (wrap64 (Int.tdiv a0 64)) 64))) % 256) [.int .u8 ((wrap64 (128 + (Int.tmod (wrap64 (Int.tdiv a0 64)) 64))) % 256)] from rfl) (Reps.one (show Kd.M (Kd.int .u8) _ _ _ ((wrap64 (128 + (Int.tmod a0 64))) % 256) [.int .u8 ((wrap64 (128 + (Int.tmod a0 64))) % 256)] from rfl) (Reps.none _ _)))))); intro v111 w14 ho15 hb hg_ hnew_; clear hg_ hnew_; (first | rw [← Ny110.out] at ho15 | (simp only [Int.reduceToNat] at ho15; rw [← Ny110.out] at ho15)); have n0_ := Aside0.mk (Kd.R_lower ho15 (below_size (by repeat (first | (with_reducible first | exact HB.out | apply below_alloc | apply pw_below_drewN | apply below_drew1) | exact HB.out)))); have n1_ := Aside0.mk (below_step (by repeat (first | (with_reducible first | exact HB.out | apply below_alloc | apply pw_below_drewN | apply below_drew1) | exact HB.out)) hb); clear HB; have HO112 := n0_; have HB := n1_; clear n0_ n1_; clear hb ho15; have hcv16 := own_string (P := Tryz.prog) Tryz.underlying53 Tryz.underlying5 Tryz.underlying9 (Kd.own_of_R HO112.out)))
        go_ret
        exact ⟨by first | rfl | (simp [errW_none, errW_some] <;> rfl) | (simp [*, errW_none, errW_some] <;> rfl), by repeat (first | (with_reducible first | exact HB.out | apply below_alloc | apply pw_below_drewN | apply below_drew1) | exact HB.out)⟩
end Go.Proofs.YtldfejbmdonaoaaGreatDoor.Sp
namespace Go.Proofs.YtldfejbmdonaoaaGreatDoor.Sp
open Go.RowKit YtldfejbmdonaoaaGreatDoorW.PrintWords YtldfejbmdonaoaaGreatDoorW.PrintLast YtldfejbmdonaoaaGreatDoorW.PrintMore
attribute [local go_sem] max2_int min2_int max_two min_two max_three min_three max_four min_four   -- for this text's walks alone
set_option linter.unusedVariables false
set_option linter.unusedSimpArgs false
def spec_reading_next.f (s0_0 : ByteArray) (s0_1 : Int) (s0_2 : Bool) : Option (Int × ByteArray × Int × Bool) := if s0_1 < (s0_0.size : Int) then (if 0 ≤ s0_1 then (some (bt s0_0 s0_1, s0_0, s0_1, s0_2)) else (none)) else (some (0, s0_0, s0_1, s0_2))
set_option maxHeartbeats 8000000 in
set_option maxRecDepth 100000 in
theorem spec_reading_next.calls (g : Nat) (s0_0 : ByteArray) (s0_1 : Int) (s0_2 : Bool) (r1 : Int) (r2 : ByteArray) (r3 : Int) (r4 : Bool) (w0 w : World) (hI : IsS45 w0 w g s0_0 s0_1 s0_2) (hB : Below w0.heap.size w0 w) (h : spec_reading_next.f s0_0 s0_1 s0_2 = some (r1, r2, r3, r4)) :
    Calls Tryz.prog 35 #[.pointer (some ⟨g, 0, none⟩)] w fun e w' => e = .returned (.int .u8 r1) ∧ IsS45 w0 w' g r2 r3 r4 ∧ Below w0.heap.size w0 w' ∧ KeepBut w w' g none := by
  have HI0 := Aside0.mk hI
  have HK := Aside0.mk (KeepBut.refl w g none)
  have HL := Aside0.mk hB.size
  clear hI
  have HW0 := Aside0.mk hB.size
  have HB := Aside0.mk hB
  clear hB
  have H : (if s0_1 < (s0_0.size : Int) then (if 0 ≤ s0_1 then (some (bt s0_0 s0_1, s0_0, s0_1, s0_2)) else (none)) else (some (0, s0_0, s0_1, s0_2))) = some (r1, r2, r3, r4) := h
  clear h
  by_cases c2 : s0_1 < (s0_0.size : Int)
  · rw [if_pos c2] at H
    have c2b0 : decide (s0_1 < (s0_0.size : Int)) = true := decide_eq_true c2
    clear c2
    by_cases c3 : 0 ≤ s0_1
    · rw [if_pos c3] at H
      have c3b0 : decide (0 ≤ s0_1) = true := decide_eq_true c3
      clear c3
      simp only [Option.some.injEq, Prod.mk.injEq] at H
      obtain ⟨rfl, rfl, rfl, rfl⟩ := H
      obtain ⟨HGz5, hgz5⟩ := HI0.out
      have hcz5_0 := cellS45_0 HGz5
      have hcz5_1 := cellS45_1 HGz5
      have hcz5_2 := cellS45_2 HGz5
      have hfz5_0 := blk_frozen HGz5 0
      have hfz5_1 := blk_frozen HGz5 1
      have hfz5_2 := blk_frozen HGz5 2
      clear HGz5 hgz5
      have p4 : 0 ≤ (s0_1 : Int) := of_decide_eq_true (by first | (with_reducible assumption) | assumption)
      have q4 : s0_1 < (s0_0.size : Int) := of_decide_eq_true (by first | (with_reducible assumption) | assumption)
      have hx4 := bt_at s0_0 s0_1
      replace p4 := eq_true p4
      replace q4 := eq_true q4
      go_enter Tryz.func35, Tryz.ntmps35
      go_wp2
      repeat (go_quiet (fail); try go_wp2)
      go_ret
      exact ⟨by first | rfl | (simp [errW_none, errW_some] <;> rfl) | (simp [*, errW_none, errW_some] <;> rfl), by repeat (first | (with_reducible first | exact HI0.out | apply IsS45.alloc | apply IsS45.drewN | apply IsS45.drew | apply IsS45.set_0 | apply IsS45.set_1 | apply IsS45.set_2) | exact HI0.out), by repeat (first | (with_reducible first | exact HB.out | apply below_alloc | apply pw_below_drewN | apply below_drew1 | refine below_set ?_ (IsS45.ge HI0.out)) | exact HB.out), by repeat (first | (with_reducible first | exact HK.out | apply KeepBut.set_ | apply keep_drewN | apply keep_drew | apply keep_alloc) | exact HK.out)⟩
    · rw [if_neg c3] at H
      exact absurd H (by simp)
  · rw [if_neg c2] at H
    have c2b0 : decide (s0_1 < (s0_0.size : Int)) = false := decide_eq_false c2
    clear c2
    simp only [Option.some.injEq, Prod.mk.injEq] at H
    obtain ⟨rfl, rfl, rfl, rfl⟩ := H
    obtain ⟨HGz6, hgz6⟩ := HI0.out
    have hcz6_0 := cellS45_0 HGz6
    have hcz6_1 := cellS45_1 HGz6
    have hcz6_2 := cellS45_2 HGz6
    have hfz6_0 := blk_frozen HGz6 0
    have hfz6_1 := blk_frozen HGz6 1
    have hfz6_2 := blk_frozen HGz6 2
    clear HGz6 hgz6
    go_enter Tryz.func35, Tryz.ntmps35
    go_wp2
    repeat (go_quiet (fail); try go_wp2)
    go_ret
    exact ⟨by first | rfl | (simp [errW_none, errW_some] <;> rfl) | (simp [*, errW_none, errW_some] <;> rfl), by repeat (first | (with_reducible first | exact HI0.out | apply IsS45.alloc | apply IsS45.drewN | apply IsS45.drew | apply IsS45.set_0 | apply IsS45.set_1 | apply IsS45.set_2) | exact HI0.out), by repeat (first | (with_reducible first | exact HB.out | apply below_alloc | apply pw_below_drewN | apply below_drew1 | refine below_set ?_ (IsS45.ge HI0.out)) | exact HB.out), by repeat (first | (with_reducible first | exact HK.out | apply KeepBut.set_ | apply keep_drewN | apply keep_drew | apply keep_alloc) | exact HK.out)⟩
end Go.Proofs.YtldfejbmdonaoaaGreatDoor.Sp