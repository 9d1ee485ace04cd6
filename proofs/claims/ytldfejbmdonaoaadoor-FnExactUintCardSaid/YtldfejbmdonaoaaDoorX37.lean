/- Joined by a program of mine from texts of this claim: Tp. -/
import Derived.Test.YtldfejbmdonaoaaDoorX36
import Derived.IntWalk
namespace Go.Proofs.YtldfejbmdonaoaaDoor.Tp
open Go.RowKit YtldfejbmdonaoaaDoorW.PrintWords YtldfejbmdonaoaaDoorW.PrintLast YtldfejbmdonaoaaDoorW.PrintMore Tw Tf Sp
set_option linter.unusedVariables false
set_option linter.unusedSimpArgs false
def dg (c : Int) : Bool := decide (48 ≤ c) && decide (c ≤ 57)
def run (p : Int → Bool) (s : ByteArray) : Nat → Int → Int
  | 0, i => i
  | n + 1, i => if p (bt s i) = true then run p s n (i + 1) else i
def runEnd (p : Int → Bool) (s : ByteArray) (i : Int) : Int := run p s ((s.size : Int) - i).toNat i
section
variable {p : Int → Bool} {s : ByteArray} {i : Int}
theorem runEnd_step (h : i < (s.size : Int)) (hp : p (bt s i) = true) : runEnd p s i = runEnd p s (i + 1) := by
  unfold runEnd
  obtain ⟨n, hn⟩ : ∃ n : Nat, ((s.size : Int) - i).toNat = n + 1 := ⟨((s.size : Int) - i).toNat - 1, by omega⟩
  have h2 : ((s.size : Int) - (i + 1)).toNat = n := by omega
  rw [hn, h2]
  simp [run, hp]
theorem runEnd_stop (h : (s.size : Int) ≤ i ∨ p (bt s i) = false) : runEnd p s i = i := by
  unfold runEnd
  cases hn : ((s.size : Int) - i).toNat with
  | zero => rfl
  | succ n =>
    rcases h with h | h
    · omega
    · simp [run, h]
theorem run_bound (p : Int → Bool) (s : ByteArray) (n : Nat) : ∀ i, i ≤ run p s n i ∧ run p s n i ≤ i + n := by
  induction n with
  | zero => intro i; simp [run]
  | succ n ih =>
    intro i
    have h := ih (i + 1)
    unfold run
    split <;> omega
theorem runEnd_le (h : i ≤ (s.size : Int)) : i ≤ runEnd p s i ∧ runEnd p s i ≤ (s.size : Int) := by
  have h := run_bound p s ((s.size : Int) - i).toNat i
  unfold runEnd
  omega
theorem runEnd_ge : i ≤ runEnd p s i := (run_bound _ _ _ _).1
theorem bt_out (h : (s.size : Int) ≤ i) : bt s i = 0 := by
  unfold bt
  rw [dif_neg (by omega)]
theorem lt_of_bt (h : bt s i ≠ 0) : i < (s.size : Int) := by
  by_cases h2 : i < (s.size : Int)
  · exact h2
  · exact absurd (bt_out (by omega)) h
theorem w1 (h0 : 0 ≤ i) (h1 : i ≤ 4000000000) : wrap64 (i + 1) = i + 1 := by unfold wrap64; omega
def nSign (s : ByteArray) (i : Int) : Int := if bt s i = 45 then i + 1 else i
def nInt (s : ByteArray) (i : Int) : Int := if bt s i = 48 then i + 1 else runEnd dg s i
def nFrac (s : ByteArray) (i : Int) : Int := if bt s i = 46 then runEnd dg s (i + 1) else i
def nFracB (s : ByteArray) (i : Int) : Bool := bt s i == 46 && !dg (bt s (i + 1))
def isE (c : Int) : Bool := c == 101 || c == 69
def nAt (s : ByteArray) (i : Int) : Int := if bt s i = 43 then i + 1 else if bt s i = 45 then i + 1 else i
def nExp (s : ByteArray) (i : Int) : Int := if isE (bt s i) = true then runEnd dg s (nAt s (i + 1)) else i
def nExpB (s : ByteArray) (i : Int) : Bool := isE (bt s i) && !dg (bt s (nAt s (i + 1)))
def numEnd (s : ByteArray) (i : Int) : Int := nExp s (nFrac s (nInt s (nSign s i)))
def numBad (s : ByteArray) (i : Int) : Bool := !dg (bt s (nSign s i)) || nFracB s (nInt s (nSign s i)) || nExpB s (nFrac s (nInt s (nSign s i)))
theorem nSign_le (h : i ≤ (s.size : Int)) : i ≤ nSign s i ∧ nSign s i ≤ (s.size : Int) := by
  unfold nSign
  split
  · have := lt_of_bt (s := s) (i := i) (by omega); omega
  · omega
theorem nInt_le (h : i ≤ (s.size : Int)) : i ≤ nInt s i ∧ nInt s i ≤ (s.size : Int) := by
  unfold nInt
  split
  · have := lt_of_bt (s := s) (i := i) (by omega); omega
  · exact runEnd_le h
theorem nFrac_le (h : i ≤ (s.size : Int)) : i ≤ nFrac s i ∧ nFrac s i ≤ (s.size : Int) := by
  unfold nFrac
  split
  · have := lt_of_bt (s := s) (i := i) (by omega)
    have := runEnd_le (p := dg) (s := s) (i := i + 1) (by omega)
    omega
  · omega
theorem nAt_le (h : i ≤ (s.size : Int)) : i ≤ nAt s i ∧ nAt s i ≤ (s.size : Int) := by
  unfold nAt
  split
  · have := lt_of_bt (s := s) (i := i) (by omega); omega
  · split
    · have := lt_of_bt (s := s) (i := i) (by omega); omega
    · omega
theorem isE_lt (h : isE (bt s i) = true) : i < (s.size : Int) := lt_of_bt (by intro e; rw [e] at h; exact absurd h (by decide))
theorem nExp_le (h : i ≤ (s.size : Int)) : i ≤ nExp s i ∧ nExp s i ≤ (s.size : Int) := by
  unfold nExp
  split
  · rename_i h2
    have := isE_lt h2
    have := nAt_le (s := s) (i := i + 1) (by omega)
    have := runEnd_le (p := dg) (s := s) (i := nAt s (i + 1)) (by omega)
    omega
  · omega
theorem numEnd_le (h : i ≤ (s.size : Int)) : i ≤ numEnd s i ∧ numEnd s i ≤ (s.size : Int) := by
  have h1 := nSign_le h
  have h2 := nInt_le h1.2
  have h3 := nFrac_le h2.2
  have h4 := nExp_le h3.2
  unfold numEnd
  omega
end
end Go.Proofs.YtldfejbmdonaoaaDoor.Tp