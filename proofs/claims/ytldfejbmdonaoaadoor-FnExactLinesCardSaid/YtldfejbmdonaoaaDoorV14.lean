/- Joined by a program of mine from texts of this claim: Tf, Tp. -/
import Derived.Test.YtldfejbmdonaoaaDoorV4
import Derived.Test.YtldfejbmdonaoaaDoorV9
import Derived.Test.YtldfejbmdonaoaaDoorV10
import Derived.Test.YtldfejbmdonaoaaDoorV12
import Derived.Test.YtldfejbmdonaoaaDoorV13
import Derived.IntWalk
namespace Go.Proofs.YtldfejbmdonaoaaDoor.Tf
open Go.RowKit YtldfejbmdonaoaaDoorW.PrintWords YtldfejbmdonaoaaDoorW.PrintLast YtldfejbmdonaoaaDoorW.PrintMore Tw Sp
def finF (kind : Int) (str : ByteArray) (pairs : Bool) (K : List ByteArray) (I : List JT) (i0 : Int) (s : ByteArray) (i : Int) (b : Bool) : Option (JT × ByteArray × Int × Bool) :=
  if b = true then some (.mk kind (⟨#[]⟩ : ByteArray) i0 str pairs K I, s, i, b)
  else if 0 ≤ i0 then (if i0 ≤ i then (if i ≤ (s.size : Int) then some (.mk kind (s.extract i0.toNat i.toNat) i0 str pairs K I, s, i, b) else none) else none) else none
mutual
def treeF : Nat → ByteArray → Int → Bool → Option (JT × ByteArray × Int × Bool)
  | 0, _, _, _ => none
  | k + 1, s, i, b => (spec_reading_next.f s i b).bind fun q =>
    if q.1 = 34 then (spec_reading_text.f k q.2.1 q.2.2.1 q.2.2.2).bind fun t => finF 3 t.1 t.2.1 [] [] i t.2.2.1 t.2.2.2.1 t.2.2.2.2
    else if q.1 = 116 then (spec_reading_word.f k q.2.1 q.2.2.1 q.2.2.2 (⟨#[116, 114, 117, 101]⟩ : ByteArray)).bind fun t => finF 4 (⟨#[]⟩ : ByteArray) true [] [] i t.1 t.2.1 t.2.2
    else if q.1 = 102 then (spec_reading_word.f k q.2.1 q.2.2.1 q.2.2.2 (⟨#[102, 97, 108, 115, 101]⟩ : ByteArray)).bind fun t => finF 1 (⟨#[]⟩ : ByteArray) true [] [] i t.1 t.2.1 t.2.2
    else if q.1 = 110 then (spec_reading_word.f k q.2.1 q.2.2.1 q.2.2.2 (⟨#[110, 117, 108, 108]⟩ : ByteArray)).bind fun t => finF 0 (⟨#[]⟩ : ByteArray) true [] [] i t.1 t.2.1 t.2.2
    else if q.1 = 123 then (listF k q.2.1 q.2.2.1 q.2.2.2 125 true).bind fun t => finF 5 (⟨#[]⟩ : ByteArray) t.2.2.1 t.1 t.2.1 i t.2.2.2.1 t.2.2.2.2.1 t.2.2.2.2.2
    else if q.1 = 91 then (listF k q.2.1 q.2.2.1 q.2.2.2 93 false).bind fun t => finF 5 (⟨#[]⟩ : ByteArray) t.2.2.1 t.1 t.2.1 i t.2.2.2.1 t.2.2.2.2.1 t.2.2.2.2.2
    else (spec_reading_number.f k q.2.1 q.2.2.1 q.2.2.2).bind fun t => finF 2 (⟨#[]⟩ : ByteArray) true [] [] i t.1 t.2.1 t.2.2
def listF : Nat → ByteArray → Int → Bool → Int → Bool → Option (List ByteArray × List JT × Bool × ByteArray × Int × Bool)
  | 0, _, _, _, _, _ => none
  | k + 1, s, i, b, e, ks => (spec_reading_blank.f k s (wrap64 (i + 1)) b).bind fun q => (spec_reading_next.f q.1 q.2.1 q.2.2).bind fun c =>
    if c.1 = e then some ([], [], true, c.2.1, wrap64 (c.2.2.1 + 1), c.2.2.2) else loopF k c.2.1 c.2.2.1 c.2.2.2 e ks [] [] true
def loopF : Nat → ByteArray → Int → Bool → Int → Bool → List ByteArray → List JT → Bool → Option (List ByteArray × List JT × Bool × ByteArray × Int × Bool)
  | 0, _, _, _, _, _, _, _, _ => none
  | k + 1, s, i, b, e, ks, K, I, P =>
    if b = true then (spec_reading_take.f s i b e).bind fun q => some (K, I, P, q.1, q.2.1, q.2.2)
    else if K.length < 1000000 then
      (if ks = true then (spec_reading_text.f k s i b).bind fun t => (spec_reading_blank.f k t.2.2.1 t.2.2.2.1 t.2.2.2.2).bind fun q1 => (spec_reading_take.f q1.1 q1.2.1 q1.2.2 58).bind fun q2 => (spec_reading_blank.f k q2.1 q2.2.1 q2.2.2).bind fun q3 =>
        itemF k q3.1 q3.2.1 q3.2.2 e ks (K ++ [t.1]) I (P && t.2.1)
      else itemF k s i b e ks K I P)
    else none
def itemF : Nat → ByteArray → Int → Bool → Int → Bool → List ByteArray → List JT → Bool → Option (List ByteArray × List JT × Bool × ByteArray × Int × Bool)
  | 0, _, _, _, _, _, _, _, _ => none
  | k + 1, s, i, b, e, ks, K, I, P =>
    if I.length < 1000000 then
      (treeF k s i b).bind fun t => (spec_reading_blank.f k t.2.1 t.2.2.1 t.2.2.2).bind fun q => (spec_reading_next.f q.1 q.2.1 q.2.2).bind fun c =>
        if c.1 = 44 then (spec_reading_blank.f k c.2.1 (wrap64 (c.2.2.1 + 1)) c.2.2.2).bind fun q2 => loopF k q2.1 q2.2.1 q2.2.2 e ks K (I ++ [t.1]) (P && t.1.pairs)
        else (spec_reading_take.f c.2.1 c.2.2.1 c.2.2.2 e).bind fun q2 => some (K, I ++ [t.1], P && t.1.pairs, q2.1, q2.2.1, q2.2.2)
    else none
end
end Go.Proofs.YtldfejbmdonaoaaDoor.Tf
namespace Go.Proofs.YtldfejbmdonaoaaDoor.Tp
open Go.RowKit YtldfejbmdonaoaaDoorW.PrintWords YtldfejbmdonaoaaDoorW.PrintLast YtldfejbmdonaoaaDoorW.PrintMore Tw Tf Sp
set_option linter.unusedVariables false
set_option linter.unusedSimpArgs false
def ws (c : Int) : Bool := c == 32 || c == 9 || c == 10 || c == 13
def dg (c : Int) : Bool := decide (48 ≤ c) && decide (c ≤ 57)
def run (p : Int → Bool) (s : ByteArray) : Nat → Int → Int
  | 0, i => i
  | n + 1, i => if p (bt s i) = true then run p s n (i + 1) else i
def runEnd (p : Int → Bool) (s : ByteArray) (i : Int) : Int := run p s ((s.size : Int) - i).toNat i
section
variable {p : Int → Bool} {s : ByteArray} {i : Int}
theorem runEnd_step (h : i < (s.size : Int)) (hp : p (bt s i) = true) : runEnd p s i = runEnd p s (i + 1) := by
  unfold runEnd
  obtain ⟨n, hn⟩ : ∃ n : Nat, ((s.size : Int) - i).toNat = n + 1 := ⟨((s.size : Int) - i).toNat - 1, by omega⟩
  have h2 : ((s.size : Int) - (i + 1)).toNat = n := by omega
  rw [hn, h2]
  simp [run, hp]
theorem runEnd_stop (h : (s.size : Int) ≤ i ∨ p (bt s i) = false) : runEnd p s i = i := by
  unfold runEnd
  cases hn : ((s.size : Int) - i).toNat with
  | zero => rfl
  | succ n =>
    rcases h with h | h
    · omega
    · simp [run, h]
theorem run_bound (p : Int → Bool) (s : ByteArray) (n : Nat) : ∀ i, i ≤ run p s n i ∧ run p s n i ≤ i + n := by
  induction n with
  | zero => intro i; simp [run]
  | succ n ih =>
    intro i
    have h := ih (i + 1)
    unfold run
    split <;> omega
theorem runEnd_le (h : i ≤ (s.size : Int)) : i ≤ runEnd p s i ∧ runEnd p s i ≤ (s.size : Int) := by
  have h := run_bound p s ((s.size : Int) - i).toNat i
  unfold runEnd
  omega
theorem runEnd_ge : i ≤ runEnd p s i := (run_bound _ _ _ _).1
theorem bt_out (h : (s.size : Int) ≤ i) : bt s i = 0 := by
  unfold bt
  rw [dif_neg (by omega)]
theorem lt_of_bt (h : bt s i ≠ 0) : i < (s.size : Int) := by
  by_cases h2 : i < (s.size : Int)
  · exact h2
  · exact absurd (bt_out (by omega)) h
theorem w1 (h0 : 0 ≤ i) (h1 : i ≤ 4000000000) : wrap64 (i + 1) = i + 1 := by unfold wrap64; omega
theorem next_eq (h0 : 0 ≤ i) (b : Bool) : spec_reading_next.f s i b = some (bt s i, s, i, b) := by
  unfold spec_reading_next.f
  by_cases h : i < (s.size : Int)
  · rw [if_pos h, if_pos h0]
  · rw [if_neg h, bt_out (by omega)]
theorem take_eq (h0 : 0 ≤ i) (h1 : (s.size : Int) ≤ 2147483647) (b : Bool) (c : Int) (hc : c ≠ 0) :
    spec_reading_take.f s i b c = if bt s i = c then some (s, i + 1, b) else some (s, i, true) := by
  unfold spec_reading_take.f
  by_cases h : i ≥ (s.size : Int)
  · rw [if_pos h, bt_out h, if_neg (Ne.symm hc)]
  · rw [if_neg h, if_pos h0, if_pos (by omega), w1 h0 (by omega)]
theorem blank_l0 (hs : (s.size : Int) ≤ 2147483647) (b : Bool) : ∀ (n : Nat) (i : Int) (k : Nat), 0 ≤ i → ((s.size : Int) - i).toNat ≤ n → n + 1 ≤ k →
    spec_reading_blank.l0 k s i b = some (s, runEnd ws s i, b) := by
  intro n
  induction n with
  | zero =>
    intro i k h0 hn hk
    obtain ⟨k, rfl⟩ : ∃ k', k = k' + 1 := ⟨k - 1, by omega⟩
    rw [spec_reading_blank.l0, if_neg (by omega), runEnd_stop (.inl (by omega))]
  | succ n ih =>
    intro i k h0 hn hk
    obtain ⟨k, rfl⟩ : ∃ k', k = k' + 1 := ⟨k - 1, by omega⟩
    rw [spec_reading_blank.l0]
    by_cases h : i < (s.size : Int)
    · rw [if_pos h, if_pos h0, w1 h0 (by omega), ih (i + 1) k (by omega) (by omega) (by omega)]
      clear ih
      by_cases hw : ws (bt s i) = true
      · rw [runEnd_step h hw]
        simp only [ws, Bool.or_eq_true, beq_iff_eq] at hw
        rcases hw with ((h1 | h1) | h1) | h1 <;> rw [h1] <;> simp
      · rw [runEnd_stop (p := ws) (i := i) (.inr (by simpa using hw))]
        simp only [ws, Bool.or_eq_true, beq_iff_eq, not_or] at hw
        obtain ⟨⟨⟨h1, h2⟩, h3⟩, h4⟩ := hw
        rw [if_neg h1, if_neg h2, if_neg h3, if_neg h4]
    · rw [if_neg h, runEnd_stop (.inl (by omega))]
theorem blank_eq (hs : (s.size : Int) ≤ 2147483647) (h0 : 0 ≤ i) (b : Bool) {k : Nat} (hk : ((s.size : Int) - i).toNat + 1 ≤ k) :
    spec_reading_blank.f k s i b = some (s, runEnd ws s i, b) := blank_l0 hs b _ i k h0 (Nat.le_refl _) hk
theorem digits_l0 (hs : (s.size : Int) ≤ 2147483647) (b : Bool) : ∀ (n : Nat) (i : Int) (k : Nat), 0 ≤ i → ((s.size : Int) - i).toNat ≤ n → n + 1 ≤ k →
    spec_reading_digits.l0 k (bt s i) s i b = some (s, runEnd dg s i, b) := by
  intro n
  induction n with
  | zero =>
    intro i k h0 hn hk
    obtain ⟨k, rfl⟩ : ∃ k', k = k' + 1 := ⟨k - 1, by omega⟩
    rw [spec_reading_digits.l0, bt_out (by omega), if_neg (by decide), runEnd_stop (.inl (by omega))]
  | succ n ih =>
    intro i k h0 hn hk
    obtain ⟨k, rfl⟩ : ∃ k', k = k' + 1 := ⟨k - 1, by omega⟩
    rw [spec_reading_digits.l0]
    by_cases hd : dg (bt s i) = true
    · have hlt : i < (s.size : Int) := lt_of_bt (by intro e; rw [e] at hd; exact absurd hd (by decide))
      rw [runEnd_step hlt hd]
      simp only [dg, Bool.and_eq_true, decide_eq_true_eq] at hd
      rw [if_pos hd.1, if_pos hd.2, w1 h0 (by omega), next_eq (by omega)]
      exact ih (i + 1) k (by omega) (by omega) (by omega)
    · rw [runEnd_stop (.inr (by simpa using hd))]
      simp only [dg, Bool.and_eq_true, decide_eq_true_eq, not_and] at hd
      by_cases h1 : bt s i ≥ 48
      · rw [if_pos h1, if_neg (hd h1)]
      · rw [if_neg h1]
theorem digits_eq (hs : (s.size : Int) ≤ 2147483647) (h0 : 0 ≤ i) (b : Bool) {k : Nat} (hk : ((s.size : Int) - i).toNat + 4 ≤ k) :
    spec_reading_digits.f k s i b = some (s, runEnd dg s i, b || !dg (bt s i)) := by
  obtain ⟨k, rfl⟩ : ∃ k', k = k' + 2 := ⟨k - 2, by omega⟩
  have hl : ∀ b, spec_reading_digits.l0 k (bt s i) s i b = some (s, runEnd dg s i, b) := fun b => digits_l0 hs b _ i k h0 (Nat.le_refl _) (by omega)
  unfold spec_reading_digits.f
  rw [next_eq h0]
  simp only [Option.bind_some]
  by_cases h1 : bt s i < 48
  · rw [if_pos h1, spec_reading_digits.j0, if_pos rfl, spec_reading_digits.j1, next_eq h0]
    simp only [Option.bind_some]
    rw [hl]
    have : dg (bt s i) = false := by simp [dg]; omega
    simp [this]
  · rw [if_neg h1, spec_reading_digits.j0]
    by_cases h2 : bt s i > 57
    · rw [if_pos (decide_eq_true h2), spec_reading_digits.j1, next_eq h0]
      simp only [Option.bind_some]
      rw [hl]
      have : dg (bt s i) = false := by simp [dg]; omega
      simp [this]
    · rw [if_neg (by simpa using h2), spec_reading_digits.j1, next_eq h0]
      simp only [Option.bind_some]
      rw [hl]
      have : dg (bt s i) = true := by simp [dg]; omega
      simp [this]
def nSign (s : ByteArray) (i : Int) : Int := if bt s i = 45 then i + 1 else i
def nInt (s : ByteArray) (i : Int) : Int := if bt s i = 48 then i + 1 else runEnd dg s i
def nFrac (s : ByteArray) (i : Int) : Int := if bt s i = 46 then runEnd dg s (i + 1) else i
def nFracB (s : ByteArray) (i : Int) : Bool := bt s i == 46 && !dg (bt s (i + 1))
def isE (c : Int) : Bool := c == 101 || c == 69
def nAt (s : ByteArray) (i : Int) : Int := if bt s i = 43 then i + 1 else if bt s i = 45 then i + 1 else i
def nExp (s : ByteArray) (i : Int) : Int := if isE (bt s i) = true then runEnd dg s (nAt s (i + 1)) else i
def nExpB (s : ByteArray) (i : Int) : Bool := isE (bt s i) && !dg (bt s (nAt s (i + 1)))
def numEnd (s : ByteArray) (i : Int) : Int := nExp s (nFrac s (nInt s (nSign s i)))
def numBad (s : ByteArray) (i : Int) : Bool := !dg (bt s (nSign s i)) || nFracB s (nInt s (nSign s i)) || nExpB s (nFrac s (nInt s (nSign s i)))
theorem nSign_le (h : i ≤ (s.size : Int)) : i ≤ nSign s i ∧ nSign s i ≤ (s.size : Int) := by
  unfold nSign
  split
  · have := lt_of_bt (s := s) (i := i) (by omega); omega
  · omega
theorem nInt_le (h : i ≤ (s.size : Int)) : i ≤ nInt s i ∧ nInt s i ≤ (s.size : Int) := by
  unfold nInt
  split
  · have := lt_of_bt (s := s) (i := i) (by omega); omega
  · exact runEnd_le h
theorem nFrac_le (h : i ≤ (s.size : Int)) : i ≤ nFrac s i ∧ nFrac s i ≤ (s.size : Int) := by
  unfold nFrac
  split
  · have := lt_of_bt (s := s) (i := i) (by omega)
    have := runEnd_le (p := dg) (s := s) (i := i + 1) (by omega)
    omega
  · omega
theorem nAt_le (h : i ≤ (s.size : Int)) : i ≤ nAt s i ∧ nAt s i ≤ (s.size : Int) := by
  unfold nAt
  split
  · have := lt_of_bt (s := s) (i := i) (by omega); omega
  · split
    · have := lt_of_bt (s := s) (i := i) (by omega); omega
    · omega
theorem isE_lt (h : isE (bt s i) = true) : i < (s.size : Int) := lt_of_bt (by intro e; rw [e] at h; exact absurd h (by decide))
theorem nExp_le (h : i ≤ (s.size : Int)) : i ≤ nExp s i ∧ nExp s i ≤ (s.size : Int) := by
  unfold nExp
  split
  · rename_i h2
    have := isE_lt h2
    have := nAt_le (s := s) (i := i + 1) (by omega)
    have := runEnd_le (p := dg) (s := s) (i := nAt s (i + 1)) (by omega)
    omega
  · omega
theorem numEnd_le (h : i ≤ (s.size : Int)) : i ≤ numEnd s i ∧ numEnd s i ≤ (s.size : Int) := by
  have h1 := nSign_le h
  have h2 := nInt_le h1.2
  have h3 := nFrac_le h2.2
  have h4 := nExp_le h3.2
  unfold numEnd
  omega
theorem number_j3 (hs : (s.size : Int) ≤ 2147483647) (h0 : 0 ≤ i) (h1 : i ≤ (s.size : Int)) (b : Bool) {k : Nat} (hk : ((s.size : Int) - i).toNat + 5 ≤ k) :
    spec_reading_number.j3 k (isE (bt s i)) s i b = some (s, nExp s i, b || nExpB s i) := by
  obtain ⟨k, rfl⟩ : ∃ k', k = k' + 1 := ⟨k - 1, by omega⟩
  rw [spec_reading_number.j3]
  by_cases h : isE (bt s i) = true
  · have hlt := isE_lt h
    rw [if_pos h, w1 h0 (by omega), next_eq (by omega)]
    simp only [Option.bind_some]
    unfold nExp nExpB nAt
    by_cases h2 : bt s (i + 1) = 43
    · have hlt2 := lt_of_bt (s := s) (i := i + 1) (by omega)
      simp only [h, h2, if_true, Bool.true_and]
      rw [w1 (by omega) (by omega), digits_eq hs (by omega) b (by omega)]
      rfl
    · rw [if_neg h2, next_eq (by omega)]
      simp only [Option.bind_some]
      by_cases h3 : bt s (i + 1) = 45
      · have hlt2 := lt_of_bt (s := s) (i := i + 1) (by omega)
        rw [if_pos h3, if_pos h, if_neg h2, if_pos h3, w1 (by omega) (by omega), digits_eq hs (by omega) b (by omega), h]
        rfl
      · rw [if_neg h3, if_pos h, if_neg h2, if_neg h3, digits_eq hs (by omega) b (by omega), h]
        rfl
  · have h' : isE (bt s i) = false := by simpa using h
    simp [nExp, nExpB, h']
theorem number_j2 (hs : (s.size : Int) ≤ 2147483647) (h0 : 0 ≤ i) (h1 : i ≤ (s.size : Int)) (b : Bool) {k : Nat} (hk : ((s.size : Int) - i).toNat + 6 ≤ k) :
    spec_reading_number.j2 k s i b = some (s, nExp s i, b || nExpB s i) := by
  obtain ⟨k, rfl⟩ : ∃ k', k = k' + 1 := ⟨k - 1, by omega⟩
  have hj := number_j3 hs h0 h1 b (k := k) (by omega)
  rw [spec_reading_number.j2, next_eq h0]
  simp only [Option.bind_some]
  by_cases h : bt s i = 101
  · rw [if_pos h]
    have : isE (bt s i) = true := by rw [h]; decide
    rw [this] at hj
    exact hj
  · rw [if_neg h, next_eq h0]
    simp only [Option.bind_some]
    have : isE (bt s i) = (bt s i == 69) := by simp [isE, h]
    rw [this] at hj
    exact hj
theorem number_j1 (hs : (s.size : Int) ≤ 2147483647) (h0 : 0 ≤ i) (h1 : i ≤ (s.size : Int)) (b : Bool) {k : Nat} (hk : ((s.size : Int) - i).toNat + 7 ≤ k) :
    spec_reading_number.j1 k s i b = some (s, nExp s (nFrac s i), b || nFracB s i || nExpB s (nFrac s i)) := by
  obtain ⟨k, rfl⟩ : ∃ k', k = k' + 1 := ⟨k - 1, by omega⟩
  have hf := nFrac_le h1
  rw [spec_reading_number.j1, next_eq h0]
  simp only [Option.bind_some]
  by_cases h : bt s i = 46
  · have hlt := lt_of_bt (s := s) (i := i) (by omega)
    have e1 : nFrac s i = runEnd dg s (i + 1) := by simp [nFrac, h]
    have e2 : nFracB s i = !dg (bt s (i + 1)) := by simp [nFracB, h]
    rw [if_pos h, w1 h0 (by omega), digits_eq hs (by omega) b (by omega)]
    simp only [Option.bind_some]
    rw [← e1, ← e2]
    exact number_j2 hs (by omega) hf.2 _ (by omega)
  · have e1 : nFrac s i = i := by simp [nFrac, h]
    have e2 : nFracB s i = false := by simp [nFracB, h]
    rw [if_neg h, e1, e2, Bool.or_false]
    exact number_j2 hs h0 h1 _ (by omega)
theorem number_j0 (hs : (s.size : Int) ≤ 2147483647) (h0 : 0 ≤ i) (h1 : i ≤ (s.size : Int)) (b : Bool) {k : Nat} (hk : ((s.size : Int) - i).toNat + 8 ≤ k) :
    spec_reading_number.j0 k s i b = some (s, nExp s (nFrac s (nInt s i)), b || !dg (bt s i) || nFracB s (nInt s i) || nExpB s (nFrac s (nInt s i))) := by
  obtain ⟨k, rfl⟩ : ∃ k', k = k' + 1 := ⟨k - 1, by omega⟩
  have hf := nInt_le h1
  rw [spec_reading_number.j0, next_eq h0]
  simp only [Option.bind_some]
  by_cases h : bt s i = 48
  · have hlt := lt_of_bt (s := s) (i := i) (by omega)
    have e1 : nInt s i = i + 1 := by simp [nInt, h]
    have e2 : (!dg (bt s i)) = false := by rw [h]; decide
    rw [if_pos h, w1 h0 (by omega), e2, Bool.or_false, ← e1]
    exact number_j1 hs (by omega) hf.2 _ (by omega)
  · have e1 : nInt s i = runEnd dg s i := by simp [nInt, h]
    rw [if_neg h, digits_eq hs h0 b (by omega)]
    simp only [Option.bind_some]
    rw [← e1]
    exact number_j1 hs (by omega) hf.2 _ (by omega)
theorem number_eq (hs : (s.size : Int) ≤ 2147483647) (h0 : 0 ≤ i) (h1 : i ≤ (s.size : Int)) (b : Bool) {k : Nat} (hk : ((s.size : Int) - i).toNat + 8 ≤ k) :
    spec_reading_number.f k s i b = some (s, numEnd s i, b || numBad s i) := by
  have hf := nSign_le h1
  unfold spec_reading_number.f numEnd numBad
  rw [next_eq h0]
  simp only [Option.bind_some]
  by_cases h : bt s i = 45
  · have hlt := lt_of_bt (s := s) (i := i) (by omega)
    have e1 : nSign s i = i + 1 := by simp [nSign, h]
    rw [if_pos h, w1 h0 (by omega), ← e1]
    rw [number_j0 hs (by omega) hf.2 _ (by omega)]
    simp only [Bool.or_assoc]
  · have e1 : nSign s i = i := by simp [nSign, h]
    rw [if_neg h, e1, number_j0 hs h0 h1 _ (by omega)]
    simp only [Bool.or_assoc]
end
end Go.Proofs.YtldfejbmdonaoaaDoor.Tp