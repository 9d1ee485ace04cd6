/- Joined by a program of mine from texts of this claim: Sc. -/
import Derived.Test.YtldfejbmdonaoaaDoorX11
import Derived.WalkLawsBesides
namespace Go.Proofs.YtldfejbmdonaoaaDoor.Sc
open Go.RowKit YtldfejbmdonaoaaDoorW.PrintWords YtldfejbmdonaoaaDoorW.PrintLast YtldfejbmdonaoaaDoorW.PrintMore
set_option linter.unusedVariables false
set_option linter.unusedSimpArgs false
structure Num0 (s : ByteArray) (i : Int) : Prop where
  sign : i = 0 ∨ i = 1 ∧ bt s 0 = 45
  lt : i < (s.size : Int)
  lo : 48 ≤ bt s i
  hi : bt s i ≤ 57
set_option maxRecDepth 100000 in
set_option maxHeartbeats 4000000 in
theorem prefix_walk (s : ByteArray) (w : World) (hz : 0 < s.size) (hs : (s.size : Int) ≤ 70000) (h0 : 48 ≤ bt s 0) (h1 : bt s 0 ≤ 57) :
    Calls Tryd.prog 86 #[.string s, .string ⟨#[105, 110, 102, 105, 110, 105, 116, 121]⟩] w fun e w' => e = .returned (.int .i64 0) ∧ Drawn0 w w' := by
  have hx0 := Bt.bt_at0 s
  have d1 : decide (65 ≤ bt s 0) = false := decide_eq_false (by omega)
  have d2 : (bt s 0 != 105) = true := bne_iff_ne.mpr (by omega)
  have hy : (((⟨#[105, 110, 102, 105, 110, 105, 116, 121]⟩ : ByteArray)[0]'(by decide)).toNat : Int) = 105 := by decide
  have HW := Aside0.mk (Drawn0.refl w)
  go_enter Tryd.func86, Tryd.ntmps86
  go_wp2_with fail
  all_goals
    go_loopg [6] 1 (fun kq x6 wr => x6 = .int .i64 0 ∧ wr = w)
    case atStart => exact ⟨rfl, rfl⟩
    case round =>
      obtain ⟨rfl, rfl⟩ := hrel
      go_wp2
      go_ret
      exact ⟨rfl, HW.out⟩
def SpecPost (w : World) (e : Ending) (w' : World) : Prop := e = .returned (.tuple #[.float .f64 0, .int .i64 0, .bool false]) ∧ Drawn0 w w'
set_option maxRecDepth 100000 in
set_option maxHeartbeats 4000000 in
theorem special_walk (s : ByteArray) (w : World) (i : Int) (hN : Num0 s i) (hs : (s.size : Int) ≤ 70000) :
    Calls Tryd.prog 70 #[.string s] w (SpecPost w) := by
  have hx0 := Bt.bt_at0 s
  have hz : 0 < s.size := by have := hN.lt; rcases hN.sign with h | h <;> omega
  have d0 : (0 == (s.size : Int)) = false := beq_eq_false_iff_ne.mpr (by omega)
  have d0b : ((s.size : Int) == 0) = false := beq_eq_false_iff_ne.mpr (by omega)
  have d1b : (s = ByteArray.empty) = False := eq_false (by rintro rfl; exact absurd hz (by decide))
  have HW := Aside0.mk (Drawn0.refl w)
  have HNN := Aside0.mk hN
  have HZ := Aside0.mk hz
  by_cases h45 : bt s 0 = 45
  · have d1 : (bt s 0 == 43) = false := beq_eq_false_iff_ne.mpr (by omega)
    have d2 : (bt s 0 == 45) = true := beq_iff_eq.mpr h45
    have hi1 : i = 1 := by
      rcases hN.sign with h | h
      · subst h; have := hN.lo; omega
      · exact h.1
    subst hi1
    have h1 : bt (s.extract 1 s.size) 0 = bt s 1 := by
      have := Bt.bt_extract (s := s) (a := 1) (b := s.size) (Nat.le_refl _) (j := 0) (by have := hN.lt; omega)
      simpa using this
    have HP := Aside0.mk (fun W => prefix_walk (s.extract 1 s.size) W (by rw [ByteArray.size_extract]; have := hN.lt; omega) (by rw [ByteArray.size_extract]; omega) (by rw [h1]; exact hN.lo) (by rw [h1]; exact hN.hi))
    have q1 : (1 ≤ s.size) = True := eq_true (by omega)
    clear hN h45 h1 hs
    go_enter Tryd.func70, Tryd.ntmps70
    go_wp2_with fail
    refine (HP.out _).mono ?_
    rintro e w5 ⟨rfl, hd⟩
    have HD := Aside0.mk hd
    clear hd
    go_wp2
    go_ret3
    exact ⟨rfl, HD.out⟩
  · have hi0 : i = 0 := by
      rcases hN.sign with h | h
      · exact h
      · exact absurd h.2 h45
    subst hi0
    have h2 := hN.lo
    have h3 := hN.hi
    have d1 : (bt s 0 == 43) = false := beq_eq_false_iff_ne.mpr (by omega)
    have d2 : (bt s 0 == 45) = false := beq_eq_false_iff_ne.mpr (by omega)
    have d3 : (bt s 0 == 105) = false := beq_eq_false_iff_ne.mpr (by omega)
    have d4 : (bt s 0 == 73) = false := beq_eq_false_iff_ne.mpr (by omega)
    have d5 : (bt s 0 == 110) = false := beq_eq_false_iff_ne.mpr (by omega)
    have d6 : (bt s 0 == 78) = false := beq_eq_false_iff_ne.mpr (by omega)
    clear hN h45 hs h2 h3
    go_enter Tryd.func70, Tryd.ntmps70
    go_wp2
    go_ret3
    exact ⟨rfl, HW.out⟩
end Go.Proofs.YtldfejbmdonaoaaDoor.Sc