/- spec.Dec, spec.Whole: the text of a whole number of at most 18 digits is its digits, a sign ahead where it is negative. -/
import Derived.Test.YteehmhakcdaljaaBt
import Derived.Test.YteehmhakcdaljaaPu
import Derived.Test.YteehmhakcdaljaaPFnExactParseIntx1
namespace Go.Proofs.Yteehmhakcdaljaa.Dec
open Go.RowKit Go.Proofs.YteehmhakcdaljaaW.PrintWords Go.Proofs.YteehmhakcdaljaaW.PrintLast Go.Proofs.YteehmhakcdaljaaW.PrintMore Go.Proofs.Yteehmhakcdaljaa.Bt Go.Proofs.Yteehmhakcdaljaa.Pu Go.Proofs.Yteehmhakcdaljaa.PFnExactParseInt

theorem val_congr {s t : ByteArray} {k : Nat} (h : ∀ j : Nat, j < k → bt s j = bt t j) : val s k = val t k := by
  induction k with
  | zero => rfl
  | succ k ih =>
    simp only [val]
    rw [ih (fun j hj => h j (by omega)), h k (Nat.lt_succ_self k)]
/-- A text that is the digits of n, k of them at most. -/
structure Digits (d : ByteArray) (n : Int) (k : Nat) : Prop where
  pos : 1 ≤ d.size
  le : d.size ≤ k
  all : AllD d d.size
  num : val d d.size = n
theorem one_digit (n : Int) (h0 : 0 ≤ n) (h1 : n < 10) : Digits (strOfNums ([(wrap64 (48 + n)) % 256] : List Int)) n 1 := by
  have e : wrap64 (48 + n) % 256 = 48 + n := by unfold wrap64; omega
  rw [e]
  have hb : bt (strOfNums [48 + n]) ((0 : Nat) : Int) = 48 + n := by
    have := bt_nums (l := [48 + n]) (j := 0) (by simp) (by simp; omega) (by simp; omega)
    simpa using this
  have hs : (strOfNums [48 + n]).size = 1 := by rw [strOfNums_size]; rfl
  refine ⟨by omega, by omega, ?_, ?_⟩
  · rw [hs]
    intro j hj
    obtain rfl : j = 0 := by omega
    rw [hb]
    omega
  · rw [hs]
    simp only [val]
    rw [hb]
    omega
theorem Digits.snoc {t d : ByteArray} {n x : Int} {k : Nat} (h : Digits t n k) (hd : Digits d x 1) : Digits (t ++ d) (n * 10 + x) (k + 1) := by
  have hs : (t ++ d).size = t.size + 1 := by rw [ByteArray.size_append]; have := hd.pos; have := hd.le; omega
  have hd1 : d.size = 1 := by have := hd.pos; have := hd.le; omega
  have hl : bt (t ++ d) (t.size : Int) = bt d ((0 : Nat) : Int) := bt_append_right 0
  have hall := hd.all
  have hnum := hd.num
  rw [hd1] at hall hnum
  refine ⟨by omega, by have := h.le; omega, ?_, ?_⟩
  · rw [hs]
    refine AllD.succ (fun j hj => ?_) ?_ ?_
    · rw [bt_append_left hj]
      exact h.all j hj
    · rw [hl]; exact (hall 0 (by omega)).1
    · rw [hl]; exact (hall 0 (by omega)).2
  · rw [hs]
    simp only [val]
    rw [val_congr (t := t) (fun j hj => bt_append_left hj), h.num, hl]
    simp only [val] at hnum
    omega
theorem dec_any (m : Nat) (hm : m ≤ 30) : ∀ n : Int, 0 ≤ n → n < 10 ^ (m + 1) → n ≤ 9223372036854775807 → ∃ d, spec_Dec.f (m + 1) n = some d ∧ Digits d n (m + 1) ∧ d.size ≤ m + 1 := by
  induction m with
  | zero =>
    intro n h0 h1 _
    have h1' : n < 10 := by simpa using h1
    refine ⟨_, by simp only [spec_Dec.f]; rw [if_pos h1'], one_digit n h0 h1', (one_digit n h0 h1').le⟩
  | succ m ih =>
    intro n h0 h1 h2
    by_cases h10 : n < 10
    · have D := one_digit n h0 h10
      refine ⟨_, by simp only [spec_Dec.f]; rw [if_pos h10], ⟨D.pos, by have := D.le; omega, D.all, D.num⟩, by have := D.le; omega⟩
    · have e1 : Int.tdiv n 10 = n / 10 := Int.tdiv_eq_ediv_of_nonneg h0
      have e2 : Int.tmod n 10 = n % 10 := Int.tmod_eq_emod_of_nonneg h0
      have e3 : wrap64 (n / 10) = n / 10 := by unfold wrap64; omega
      have hlt : n / 10 < 10 ^ (m + 1) := by
        rw [Int.pow_succ] at h1
        omega
      obtain ⟨t, ht, D, hz⟩ := ih (by omega) (n / 10) (by omega) hlt (by omega)
      have O := one_digit (n % 10) (by omega) (by omega)
      have S := D.snoc O
      refine ⟨t ++ strOfNums [wrap64 (48 + n % 10) % 256], ?_, ?_, ?_⟩
      · simp only [spec_Dec.f]
        rw [if_neg h10, e1, e3]
        simp only [spec_Dec.f] at ht
        rw [ht]
        simp only [Option.bind_some, e2]
        rw [if_pos (by rw [strOfNums_size]; simp; omega)]
      · have e : n / 10 * 10 + n % 10 = n := by omega
        rw [e] at S
        exact S
      · rw [ByteArray.size_append, strOfNums_size]
        simp
        omega
/-- spec.Whole of a number of at most 18 digits: the digits, or a sign and the digits. -/
theorem whole_pos (n : Int) (h0 : 0 ≤ n) (h1 : n < 1000000000000000000) : ∃ d, spec_Whole.f 18 n = some d ∧ Digits d n 18 := by
  obtain ⟨d, hd, D, _⟩ := dec_any 17 (by omega) n h0 (by omega) (by omega)
  refine ⟨d, ?_, D⟩
  unfold spec_Whole.f
  rw [if_neg (by omega), hd]
  rfl
theorem whole_neg (n : Int) (h0 : n < 0) (h1 : -1000000000000000000 < n) : ∃ d, spec_Whole.f 18 n = some ((⟨#[45]⟩ : ByteArray) ++ d) ∧ Digits d (-n) 18 := by
  obtain ⟨d, hd, D, _⟩ := dec_any 17 (by omega) (-n) (by omega) (by omega) (by omega)
  refine ⟨d, ?_, D⟩
  unfold spec_Whole.f
  have e : wrap64 (-n) = -n := by unfold wrap64; omega
  rw [if_pos h0, e, hd]
  simp only [Option.bind_some]
  rw [if_pos (by have := D.le; omega)]
end Go.Proofs.Yteehmhakcdaljaa.Dec
