/- Joined by a program of mine from texts of this claim: Fw. -/
import Derived.Laws.FloatArith
namespace Go.Proofs.YtldfejbmdonaoaaDoor.Fw
open Go Ieee
set_option linter.unusedVariables false
set_option linter.unusedSimpArgs false
theorem least : double.leastPlace = -1074 := by decide
theorem bin : double.binade = 4503599627370496 := by decide
theorem inf : double.infRung = 9218868437227405312 := by decide
theorem sgw : double.signWeight = 9223372036854775808 := by decide
theorem log_bd {m : Nat} (h0 : m ≠ 0) (h1 : m < 9007199254740992) : m.log2 ≤ 52 ∧ 2 ^ m.log2 ≤ m ∧ m < 2 ^ (m.log2 + 1) :=
  ⟨by have := (Nat.log2_lt (n := m) (k := 53) h0).mpr h1; omega, Nat.log2_self_le h0, (Nat.log2_lt h0).mp (Nat.lt_succ_self _)⟩
theorem cut0 (neg : Bool) (n : Nat) : Toward.even.cut neg n 0 = n := by
  unfold Toward.cut
  simp [Nat.mod_one]
theorem kept_bd {m : Nat} (h0 : m ≠ 0) (h1 : m < 9007199254740992) : 4503599627370496 ≤ m * 2 ^ (52 - m.log2) ∧ m * 2 ^ (52 - m.log2) < 9007199254740992 := by
  obtain ⟨a, b, c⟩ := log_bd h0 h1
  have hp : 2 ^ m.log2 * 2 ^ (52 - m.log2) = 4503599627370496 := by rw [← Nat.pow_add, show m.log2 + (52 - m.log2) = 52 by omega]
  have hp2 : 2 ^ (m.log2 + 1) * 2 ^ (52 - m.log2) = 9007199254740992 := by rw [← Nat.pow_add, show m.log2 + 1 + (52 - m.log2) = 53 by omega]
  constructor
  · rw [← hp]; exact Nat.mul_le_mul_right _ b
  · rw [← hp2]; exact Nat.mul_lt_mul_of_pos_right c (Nat.pow_pos (by decide))
theorem near (neg : Bool) {m : Nat} (h0 : m ≠ 0) (h1 : m < 9007199254740992) :
    double.nearest neg m 0 = double.word neg ((m.log2 + 1022) * 4503599627370496 + m * 2 ^ (52 - m.log2)) := by
  obtain ⟨a, b, c⟩ := log_bd h0 h1
  obtain ⟨k1, k2⟩ := kept_bd h0 h1
  unfold Format.nearest
  rw [if_neg h0, least, bin, inf]
  have e1 : max (0 + (m.log2 : Int) - ((double.fractionBits : Nat) : Int)) (-1074) = (m.log2 : Int) - 52 := by
    have : ((double.fractionBits : Nat) : Int) = 52 := rfl
    omega
  simp only [e1]
  rw [show ((0 : Int) - ((m.log2 : Int) - 52)).toNat = 52 - m.log2 by omega, show ((m.log2 : Int) - 52 - 0).toNat = 0 by omega, cut0, Nat.shiftLeft_eq,
    show ((m.log2 : Int) - 52 - -1074).toNat = m.log2 + 1022 by omega, Nat.min_eq_left (by omega)]
theorem read_word (neg : Bool) {r : Nat} (h1 : 4503599627370496 ≤ r) (h2 : r < 9218868437227405312) :
    double.read (double.word neg r) = .number neg (4503599627370496 + r % 4503599627370496) (-1074 + ((r / 4503599627370496 - 1 : Nat) : Int)) := by
  unfold Format.read Format.word
  rw [sgw, bin, inf, least]
  cases neg
  · simp only [Bool.false_eq_true, if_false]
    rw [Nat.mod_eq_of_lt (show r < 9223372036854775808 by omega), if_neg (by omega), if_pos h2, Nat.div_eq_of_lt (by omega)]
    rfl
  · simp only [if_true]
    rw [Nat.add_mod_left, Nat.mod_eq_of_lt (show r < 9223372036854775808 by omega), if_neg (by omega), if_pos h2, show (9223372036854775808 + r) / 9223372036854775808 = 1 by omega]
    rfl
theorem read_near (neg : Bool) {m : Nat} (h0 : m ≠ 0) (h1 : m < 9007199254740992) : double.read (double.nearest neg m 0) = .number neg (m * 2 ^ (52 - m.log2)) ((m.log2 : Int) - 52) := by
  obtain ⟨a, b, c⟩ := log_bd h0 h1
  obtain ⟨k1, k2⟩ := kept_bd h0 h1
  rw [near neg h0 h1, read_word neg (by omega) (by omega)]
  congr 1
  · omega
  · omega
theorem float_is (a : Int) : floatOfInt .f64 a = double.nearest (a < 0) a.natAbs 0 := rfl
theorem rep {a : Int} (h : a.natAbs < 9007199254740992) : ∃ s m i, double.read (floatOfInt .f64 a) = .number s m i ∧ i ≤ 0 ∧ ∀ b : Int, b ≤ i → signed s m (i - b).toNat = a * 2 ^ (-b).toNat := by
  rw [float_is]
  by_cases h0 : a.natAbs = 0
  · have ha : a = 0 := by omega
    subst ha
    refine ⟨false, 0, -1074, by decide, by decide, fun b hb => ?_⟩
    simp [signed]
  · refine ⟨_, _, _, read_near (a < 0) h0 h, by have := (log_bd h0 h).1; omega, fun b hb => ?_⟩
    have hl := (log_bd h0 h).1
    have e : (a.natAbs * 2 ^ (52 - a.natAbs.log2)) <<< ((a.natAbs.log2 : Int) - 52 - b).toNat = a.natAbs * 2 ^ (-b).toNat := by
      rw [Nat.shiftLeft_eq, Nat.mul_assoc, ← Nat.pow_add, show 52 - a.natAbs.log2 + ((a.natAbs.log2 : Int) - 52 - b).toNat = (-b).toNat by omega]
    unfold signed
    rw [e]
    by_cases hn : a < 0
    · rw [decide_eq_true hn, if_pos rfl]
      rw [Int.natCast_mul, Int.natCast_pow, show ((a.natAbs : Nat) : Int) = -a by omega, Int.neg_mul, Int.neg_neg]
      rfl
    · rw [decide_eq_false hn, if_neg (by decide)]
      rw [Int.natCast_mul, Int.natCast_pow, show ((a.natAbs : Nat) : Int) = a by omega]
      rfl
theorem order_whole {a b : Int} (ha : a.natAbs < 9007199254740992) (hb : b.natAbs < 9007199254740992) : FloatKind.f64.format.order (floatOfInt .f64 a) (floatOfInt .f64 b) = some (compare a b) := by
  obtain ⟨s, m, i, hr, hi, h⟩ := rep ha
  obtain ⟨t, n, j, hr2, hj, h2⟩ := rep hb
  show (double.read (floatOfInt .f64 a)).order (double.read (floatOfInt .f64 b)) = _
  rw [hr, hr2]
  show some (compare (signed s m (i - min i j).toNat) (signed t n (j - min i j).toNat)) = _
  rw [h _ (by omega), h2 _ (by omega)]
  have hp : (0 : Int) < 2 ^ (-(min i j)).toNat := Int.pow_pos (by decide)
  generalize (2 : Int) ^ (-(min i j)).toNat = K at hp
  congr 1
  show compareOfLessAndEq _ _ = compareOfLessAndEq _ _
  unfold compareOfLessAndEq
  have e1 : (a * K < b * K) = (a < b) := propext ⟨fun h => Int.lt_of_mul_lt_mul_right h (by omega), fun h => Int.mul_lt_mul_of_pos_right h hp⟩
  have e2 : (a * K = b * K) = (a = b) := propext ⟨fun h => Int.eq_of_mul_eq_mul_right (by omega) h, fun h => by rw [h]⟩
  simp only [e1, e2]
theorem xor_top {r : Nat} (h : r < 2 ^ 63) : r ^^^ 2 ^ 63 = 2 ^ 63 + r := by
  apply Nat.eq_of_testBit_eq
  intro k
  rw [Nat.testBit_xor, Nat.testBit_two_pow]
  rcases Nat.lt_trichotomy k 63 with hk | hk | hk
  · rw [Nat.testBit_two_pow_add_gt hk]
    simp [show ¬ 63 = k by omega]
  · subst hk
    rw [Nat.testBit_two_pow_add_eq]
    simp
  · have e1 : r.testBit k = false := Nat.testBit_lt_two_pow (Nat.lt_of_lt_of_le h (Nat.pow_le_pow_right (by decide) (by omega)))
    have e2 : (2 ^ 63 + r).testBit k = false := Nat.testBit_lt_two_pow (Nat.lt_of_lt_of_le (show 2 ^ 63 + r < 2 ^ 64 by omega) (Nat.pow_le_pow_right (by decide) (by omega)))
    rw [e1, e2]
    simp [show ¬ 63 = k by omega]
theorem neg_whole {a : Int} (h0 : 0 < a) (h1 : a < 9007199254740992) : Op.negFloat .f64 (floatOfInt .f64 a) = floatOfInt .f64 (-a) := by
  have hm : a.natAbs ≠ 0 := by omega
  have hm2 : a.natAbs < 9007199254740992 := by omega
  obtain ⟨l1, l2, l3⟩ := log_bd hm hm2
  obtain ⟨k1, k2⟩ := kept_bd hm hm2
  rw [float_is, float_is, decide_eq_false (show ¬ a < 0 by omega), decide_eq_true (show -a < 0 by omega), Int.natAbs_neg, near _ hm hm2, near _ hm hm2]
  show (_ : Nat) ^^^ 2 ^ 63 = _
  generalize hr : (a.natAbs.log2 + 1022) * 4503599627370496 + a.natAbs * 2 ^ (52 - a.natAbs.log2) = r
  have hlt : r < 2 ^ 63 := by
    have : (2 : Nat) ^ 63 = 9223372036854775808 := by decide
    omega
  show r ^^^ 2 ^ 63 = double.signWeight + r
  rw [xor_top hlt, sgw]
theorem word53 {d : Int} (h0 : 4503599627370496 ≤ d) (h1 : d < 9007199254740992) : (floatOfInt .f64 d : Int) = 4841369599423283200 + (d - 4503599627370496) := by
  have hm : d.natAbs ≠ 0 := by omega
  have hm2 : d.natAbs < 9007199254740992 := by omega
  have hl : d.natAbs.log2 = 52 := by
    have h2 := (Nat.log2_lt (n := d.natAbs) (k := 53) hm).mpr (by omega)
    have h3 := mt (Nat.log2_lt (n := d.natAbs) (k := 52) hm).mp (by omega)
    omega
  rw [float_is, decide_eq_false (show ¬ d < 0 by omega), near _ hm hm2, hl]
  show (((52 + 1022) * 4503599627370496 + d.natAbs * 2 ^ (52 - 52) : Nat) : Int) = _
  omega
theorem whole_of {a : Int} (h : a.natAbs < 9007199254740992) : floatToIntVal .f64 (floatOfInt .f64 a) .i64 = some a := by
  have key : (double.read (floatOfInt .f64 a)).toInt .zero = some a := by
    rw [float_is]
    by_cases h0 : a.natAbs = 0
    · have ha : a = 0 := by omega
      subst ha
      decide
    · obtain ⟨l1, l2, l3⟩ := log_bd h0 h
      rw [read_near _ h0 h]
      have hlog : (a.natAbs * 2 ^ (52 - a.natAbs.log2)).log2 = 52 := by
        have hk := kept_bd h0 h
        have h2 := (Nat.log2_lt (n := a.natAbs * 2 ^ (52 - a.natAbs.log2)) (k := 53) (by omega)).mpr (by omega)
        have h3 := mt (Nat.log2_lt (n := a.natAbs * 2 ^ (52 - a.natAbs.log2)) (k := 52) (by omega)).mp (by omega)
        omega
      have hc : Toward.zero.cut (decide (a < 0)) ((a.natAbs * 2 ^ (52 - a.natAbs.log2)) <<< ((a.natAbs.log2 : Int) - 52).toNat) (-((a.natAbs.log2 : Int) - 52)).toNat = a.natAbs := by
        rw [show ((a.natAbs.log2 : Int) - 52).toNat = 0 by omega, Nat.shiftLeft_zero, show (-((a.natAbs.log2 : Int) - 52)).toNat = 52 - a.natAbs.log2 by omega]
        unfold Toward.cut
        simp only [hlog]
        rw [Nat.min_eq_left (by omega), Nat.shiftLeft_eq, Nat.one_mul, Nat.mul_div_cancel _ (Nat.pow_pos (by decide))]
        rfl
      unfold Datum.toInt Datum.integral
      simp only [hc]
      unfold signed
      by_cases hn : a < 0
      · rw [decide_eq_true hn, if_pos rfl, Nat.shiftLeft_zero]
        congr 1
        omega
      · rw [decide_eq_false hn, if_neg (by decide), Nat.shiftLeft_zero]
        congr 1
        omega
  unfold floatToIntVal
  show (match (double.read (floatOfInt .f64 a)).toInt .zero with | some n => if IntKind.min .i64 ≤ n ∧ n ≤ IntKind.max .i64 then some n else none | none => none) = _
  rw [key]
  have e1 : IntKind.min .i64 = -9223372036854775808 := by decide
  have e2 : IntKind.max .i64 = 9223372036854775807 := by decide
  simp only [e1, e2]
  rw [if_pos (by omega)]
end Go.Proofs.YtldfejbmdonaoaaDoor.Fw