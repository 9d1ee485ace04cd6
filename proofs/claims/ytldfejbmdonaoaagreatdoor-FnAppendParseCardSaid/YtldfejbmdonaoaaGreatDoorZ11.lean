/- Joined by a program of mine from texts of this claim: Sp3, Sp4. -/
import Derived.Test.YtldfejbmdonaoaaGreatDoorZ9
namespace Go.Proofs.YtldfejbmdonaoaaGreatDoor.Sp
open Go.RowKit YtldfejbmdonaoaaGreatDoorW.PrintWords YtldfejbmdonaoaaGreatDoorW.PrintLast YtldfejbmdonaoaaGreatDoorW.PrintMore
attribute [local go_sem] max2_int min2_int max_two min_two max_three min_three max_four min_four   -- for this text's walks alone
set_option linter.unusedVariables false
set_option linter.unusedSimpArgs false
def spec_reading_next.f (s0_0 : ByteArray) (s0_1 : Int) (s0_2 : Bool) : Option (Int × ByteArray × Int × Bool) := if s0_1 < (s0_0.size : Int) then (if 0 ≤ s0_1 then (some (bt s0_0 s0_1, s0_0, s0_1, s0_2)) else (none)) else (some (0, s0_0, s0_1, s0_2))
end Go.Proofs.YtldfejbmdonaoaaGreatDoor.Sp
namespace Go.Proofs.YtldfejbmdonaoaaGreatDoor.Sp
open Go.RowKit YtldfejbmdonaoaaGreatDoorW.PrintWords YtldfejbmdonaoaaGreatDoorW.PrintLast YtldfejbmdonaoaaGreatDoorW.PrintMore
attribute [local go_sem] max2_int min2_int max_two min_two max_three min_three max_four min_four   -- for this text's walks alone
set_option linter.unusedVariables false
set_option linter.unusedSimpArgs false
mutual
def spec_reading_hex.l0 : Nat → Int → Int → ByteArray → Int → Bool → Option (Int × ByteArray × Int × Bool)
  | 0, _, _, _, _, _ => none
  | k + 1, x3, x5, x1000, x1001, x1002 => if x5 < 4 then ((spec_reading_next.f x1000 x1001 x1002).bind fun bt113 => (if (wrap64 (bt113.1)) ≥ 48 then (spec_reading_hex.j1 k x3 (wrap64 (bt113.1)) x5 (decide ((wrap64 (bt113.1)) ≤ 57)) bt113.2.1 bt113.2.2.1 bt113.2.2.2) else (spec_reading_hex.j1 k x3 (wrap64 (bt113.1)) x5 false bt113.2.1 bt113.2.2.1 bt113.2.2.2))) else (some (x3, x1000, x1001, x1002))
def spec_reading_hex.j1 : Nat → Int → Int → Int → Bool → ByteArray → Int → Bool → Option (Int × ByteArray × Int × Bool)
  | 0, _, _, _, _, _, _, _ => none
  | k + 1, x3, x4, x5, x13, x1000, x1001, x1002 => if x13 = true then (spec_reading_hex.l0 k (wrap64 ((wrap64 (x3 * 16)) + (wrap64 (x4 - 48)))) (wrap64 (x5 + 1)) x1000 (wrap64 (x1001 + 1)) x1002) else (if x4 ≥ 97 then (spec_reading_hex.j2 k x3 x4 x5 (decide (x4 ≤ 102)) x1000 x1001 x1002) else (spec_reading_hex.j2 k x3 x4 x5 false x1000 x1001 x1002))
def spec_reading_hex.j2 : Nat → Int → Int → Int → Bool → ByteArray → Int → Bool → Option (Int × ByteArray × Int × Bool)
  | 0, _, _, _, _, _, _, _ => none
  | k + 1, x3, x4, x5, x22, x1000, x1001, x1002 => if x22 = true then (spec_reading_hex.l0 k (wrap64 ((wrap64 (x3 * 16)) + (wrap64 (x4 - 87)))) (wrap64 (x5 + 1)) x1000 (wrap64 (x1001 + 1)) x1002) else (if x4 ≥ 65 then (if x4 ≤ 70 then (spec_reading_hex.l0 k (wrap64 ((wrap64 (x3 * 16)) + (wrap64 (x4 - 55)))) (wrap64 (x5 + 1)) x1000 (wrap64 (x1001 + 1)) x1002) else (some (0, x1000, x1001, true))) else (some (0, x1000, x1001, true)))
end
def spec_reading_hex.f (k : Nat) (s0_0 : ByteArray) (s0_1 : Int) (s0_2 : Bool) : Option (Int × ByteArray × Int × Bool) := spec_reading_hex.l0 k 0 0 s0_0 s0_1 s0_2
theorem spec_reading_hex.mono_l : ∀ k, (∀ y0 y1 y2 y3 y4, LeO (spec_reading_hex.l0 k y0 y1 y2 y3 y4) (spec_reading_hex.l0 (k + 1) y0 y1 y2 y3 y4)) ∧ (∀ y0 y1 y2 y3 y4 y5 y6, LeO (spec_reading_hex.j1 k y0 y1 y2 y3 y4 y5 y6) (spec_reading_hex.j1 (k + 1) y0 y1 y2 y3 y4 y5 y6)) ∧ (∀ y0 y1 y2 y3 y4 y5 y6, LeO (spec_reading_hex.j2 k y0 y1 y2 y3 y4 y5 y6) (spec_reading_hex.j2 (k + 1) y0 y1 y2 y3 y4 y5 y6))
  | 0 => ⟨fun _ _ _ _ _ r h => by simp [spec_reading_hex.l0] at h, fun _ _ _ _ _ _ _ r h => by simp [spec_reading_hex.j1] at h, fun _ _ _ _ _ _ _ r h => by simp [spec_reading_hex.j2] at h⟩
  | k + 1 => by
    obtain ⟨ih0, ih1, ih2⟩ := spec_reading_hex.mono_l k
    refine ⟨?_, ?_, ?_⟩
    · intro y0 y1 y2 y3 y4
      unfold spec_reading_hex.l0
      repeat' first
      | (with_reducible exact ih0 _ _ _ _ _) | (with_reducible exact ih1 _ _ _ _ _ _ _) | (with_reducible exact ih2 _ _ _ _ _ _ _) | (with_reducible exact LeO.refl _) | (with_reducible exact LeO.none _) | (with_reducible refine LeO.ite ?_ ?_) | (with_reducible refine LeO.bind ?_ (fun _ => ?_)) | exact ih0 _ _ _ _ _ | exact ih1 _ _ _ _ _ _ _ | exact ih2 _ _ _ _ _ _ _ | exact LeO.none _ | refine LeO.ite ?_ ?_ | refine LeO.bind ?_ (fun _ => ?_)
    · intro y0 y1 y2 y3 y4 y5 y6
      unfold spec_reading_hex.j1
      repeat' first
      | (with_reducible exact ih0 _ _ _ _ _) | (with_reducible exact ih1 _ _ _ _ _ _ _) | (with_reducible exact ih2 _ _ _ _ _ _ _) | (with_reducible exact LeO.refl _) | (with_reducible exact LeO.none _) | (with_reducible refine LeO.ite ?_ ?_) | (with_reducible refine LeO.bind ?_ (fun _ => ?_)) | exact ih0 _ _ _ _ _ | exact ih1 _ _ _ _ _ _ _ | exact ih2 _ _ _ _ _ _ _ | exact LeO.none _ | refine LeO.ite ?_ ?_ | refine LeO.bind ?_ (fun _ => ?_)
    · intro y0 y1 y2 y3 y4 y5 y6
      unfold spec_reading_hex.j2
      repeat' first
      | (with_reducible exact ih0 _ _ _ _ _) | (with_reducible exact ih1 _ _ _ _ _ _ _) | (with_reducible exact ih2 _ _ _ _ _ _ _) | (with_reducible exact LeO.refl _) | (with_reducible exact LeO.none _) | (with_reducible refine LeO.ite ?_ ?_) | (with_reducible refine LeO.bind ?_ (fun _ => ?_)) | exact ih0 _ _ _ _ _ | exact ih1 _ _ _ _ _ _ _ | exact ih2 _ _ _ _ _ _ _ | exact LeO.none _ | refine LeO.ite ?_ ?_ | refine LeO.bind ?_ (fun _ => ?_)
end Go.Proofs.YtldfejbmdonaoaaGreatDoor.Sp