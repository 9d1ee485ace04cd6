/- Joined by a program of mine from texts of this claim: Tb, Ts, Dm. -/
import Derived.Test.YtldfejbmdonaoaaDoorV15
import Derived.Test.YtldfejbmdonaoaaDoorV3
import Derived.Test.YtldfejbmdonaoaaDoorV18
import Derived.Deep.RegionHeld3
namespace Go.Proofs.YtldfejbmdonaoaaDoor.Tb
open Go.RowKit YtldfejbmdonaoaaDoorW.PrintWords YtldfejbmdonaoaaDoorW.PrintLast YtldfejbmdonaoaaDoorW.PrintMore Tp Te
set_option linter.unusedVariables false
set_option linter.unusedSimpArgs false
end Go.Proofs.YtldfejbmdonaoaaDoor.Tb
namespace Go.Proofs.YtldfejbmdonaoaaDoor.Ts
open Go.RowKit YtldfejbmdonaoaaDoorW.PrintWords YtldfejbmdonaoaaDoorW.PrintLast YtldfejbmdonaoaaDoorW.PrintMore Tp Te Ub Uq Tb
set_option linter.unusedVariables false
set_option linter.unusedSimpArgs false
def cnt (u : ByteArray) : Nat → Int → Int
  | 0, _ => 0
  | n + 1, x => if bt u x = 92 then 1 + cnt u n (x - 1) else 0
def bsn (u : ByteArray) (x : Int) : Int := cnt u x.toNat x
section
variable {u : ByteArray} {x : Int}
theorem bsn_low (h : x ≤ 0) : bsn u x = 0 := by
  unfold bsn
  rw [show x.toNat = 0 by omega]
  rfl
theorem bsn_step (h : 1 ≤ x) (hc : bt u x = 92) : bsn u x = 1 + bsn u (x - 1) := by
  unfold bsn
  obtain ⟨n, hn⟩ : ∃ n : Nat, x.toNat = n + 1 := ⟨x.toNat - 1, by omega⟩
  rw [hn, show (x - 1).toNat = n by omega]
  simp [cnt, hc]
theorem bsn_stop (hc : bt u x ≠ 92) : bsn u x = 0 := by
  unfold bsn
  cases x.toNat with
  | zero => rfl
  | succ n => simp [cnt, hc]
end
theorem hx_not {c : Int} (h : hx c = true) : c ≠ 34 ∧ c ≠ 92 := by
  simp only [hx, Bool.or_eq_true, Bool.and_eq_true, decide_eq_true_eq] at h
  omega
theorem hex4_not {s : ByteArray} {i : Int} (h : hex4 s i = true) : ∀ p, i ≤ p → p < i + 4 → bt s p ≠ 34 ∧ bt s p ≠ 92 := by
  simp only [hex4, Bool.and_eq_true] at h
  obtain ⟨⟨⟨a1, a2⟩, a3⟩, a4⟩ := h
  intro p h1 h2
  have : p = i ∨ p = i + 1 ∨ p = i + 2 ∨ p = i + 3 := by omega
  rcases this with rfl | rfl | rfl | rfl
  · exact hx_not a1
  · exact hx_not a2
  · exact hx_not a3
  · exact hx_not a4
theorem esc_shape {s : ByteArray} {i : Int} {l : List Int} {p : Bool} {j : Int} (h : escR s i = some (l, p, j)) :
    (bt s i ≠ 117 ∧ esc (bt s i) = true ∧ j = i + 1) ∨ (i + 5 ≤ j ∧ bt s (j - 1) ≠ 92 ∧ ∀ p, i ≤ p → p < j → bt s p ≠ 34) := by
  unfold escR at h
  by_cases c1 : bt s i = 117
  · rw [if_pos c1] at h
    right
    by_cases c2 : hex4 s (i + 1) = true
    · rw [if_pos c2] at h
      have x1 := hex4_not c2
      have five : j = i + 5 → i + 5 ≤ j ∧ bt s (j - 1) ≠ 92 ∧ ∀ p, i ≤ p → p < j → bt s p ≠ 34 := by
        rintro rfl
        refine ⟨by omega, (x1 (i + 5 - 1) (by omega) (by omega)).2, fun p h1 h2 => ?_⟩
        by_cases e : p = i
        · rw [e, c1]; decide
        · exact (x1 p (by omega) (by omega)).1
      by_cases c3 : hexV s (i + 1) < 55296 ∨ hexV s (i + 1) > 57343
      · rw [if_pos c3] at h
        simp only [Option.some.injEq, Prod.mk.injEq] at h
        exact five h.2.2.symm
      · rw [if_neg c3] at h
        by_cases c4 : hexV s (i + 1) ≥ 56320 ∨ i + 6 ≥ (s.size : Int) ∨ bt s (i + 5) ≠ 92 ∨ bt s (i + 6) ≠ 117
        · rw [if_pos c4] at h
          simp only [Option.some.injEq, Prod.mk.injEq] at h
          exact five h.2.2.symm
        · rw [if_neg c4] at h
          by_cases c5 : hex4 s (i + 7) = true
          · rw [if_pos c5] at h
            have x2 := hex4_not c5
            have b5 : bt s (i + 5) = 92 := Decidable.byContradiction fun h => c4 (.inr (.inr (.inl h)))
            have b6 : bt s (i + 6) = 117 := Decidable.byContradiction fun h => c4 (.inr (.inr (.inr h)))
            have hj : j = i + 11 := by split at h <;> (simp only [Option.some.injEq, Prod.mk.injEq] at h; exact h.2.2.symm)
            subst hj
            refine ⟨by omega, (x2 (i + 11 - 1) (by omega) (by omega)).2, fun p h1 h2 => ?_⟩
            by_cases e : p = i
            · rw [e, c1]; decide
            by_cases e2 : p < i + 5
            · exact (x1 p (by omega) (by omega)).1
            by_cases e3 : p = i + 5
            · rw [e3, b5]; decide
            by_cases e4 : p = i + 6
            · rw [e4, b6]; decide
            · exact (x2 p (by omega) (by omega)).1
          · rw [if_neg c5] at h; exact absurd h (by simp)
    · rw [if_neg c2] at h; exact absurd h (by simp)
  · rw [if_neg c1] at h
    by_cases c2 : esc (bt s i) = true
    · rw [if_pos c2] at h
      simp only [Option.some.injEq, Prod.mk.injEq] at h
      exact .inl ⟨c1, c2, h.2.2.symm⟩
    · rw [if_neg c2] at h; exact absurd h (by simp)
theorem parity {u : ByteArray} : ∀ (n : Nat) (x : Int) {l : List Int} {p : Bool} {j : Int}, textR u n x = some (l, p, j) → 1 ≤ x → bsn u (x - 1) % 2 = 0 →
    (∀ q, x ≤ q → q < j - 1 → bt u q = 34 → bsn u (q - 1) % 2 = 1) ∧ bsn u (j - 2) % 2 = 0 ∧ bt u (j - 1) = 34 := by
  intro n
  induction n with
  | zero => intro x l p j h; exact absurd h (by simp [textR])
  | succ n ih =>
    intro x l p j h h1 hb
    unfold textR at h
    by_cases c1 : bt u x < 32
    · rw [if_pos c1] at h; exact absurd h (by simp)
    rw [if_neg c1] at h
    by_cases c2 : bt u x = 34
    · rw [if_pos c2] at h
      simp only [Option.some.injEq, Prod.mk.injEq] at h
      obtain ⟨rfl, rfl, rfl⟩ := h
      exact ⟨fun q a b => by omega, by rw [show x + 1 - 2 = x - 1 by omega]; exact hb, by rw [show x + 1 - 1 = x by omega]; exact c2⟩
    rw [if_neg c2] at h
    by_cases c3 : bt u x = 92
    · rw [if_pos c3] at h
      replace h := Option.bind_eq_some_iff.mp h
      obtain ⟨⟨e, b, i'⟩, hE, h⟩ := h
      replace h := Option.bind_eq_some_iff.mp h
      obtain ⟨⟨l', p', j'⟩, hT, h⟩ := h
      simp only [Option.some.injEq, Prod.mk.injEq] at h
      obtain ⟨rfl, rfl, rfl⟩ := h
      have hx := bsn_step h1 c3
      rcases esc_shape hE with ⟨g1, g2, rfl⟩ | ⟨g1, g2, g3⟩
      · have e : bsn u (x + 1 + 1 - 1) % 2 = 0 := by
          rw [show x + 1 + 1 - 1 = x + 1 by omega]
          by_cases c4 : bt u (x + 1) = 92
          · rw [bsn_step (by omega) c4, show x + 1 - 1 = x by omega]; omega
          · rw [bsn_stop c4]; rfl
        obtain ⟨i1, i2, i3⟩ := ih (x + 1 + 1) hT (by omega) e
        refine ⟨fun q a b hq => ?_, i2, i3⟩
        by_cases e1 : q = x
        · rw [e1] at hq; omega
        by_cases e2 : q = x + 1
        · rw [e2, show x + 1 - 1 = x by omega]; omega
        · exact i1 q (by omega) b hq
      · obtain ⟨i1, i2, i3⟩ := ih i' hT (by omega) (by rw [bsn_stop g2]; rfl)
        refine ⟨fun q a b hq => ?_, i2, i3⟩
        by_cases e1 : q = x
        · rw [e1] at hq; omega
        by_cases e2 : q < i'
        · exact absurd hq (g3 q (by omega) e2)
        · exact i1 q (by omega) b hq
    · rw [if_neg c3] at h
      replace h := Option.bind_eq_some_iff.mp h
      obtain ⟨⟨l', p', j'⟩, hT, h⟩ := h
      simp only [Option.some.injEq, Prod.mk.injEq] at h
      obtain ⟨rfl, rfl, rfl⟩ := h
      obtain ⟨i1, i2, i3⟩ := ih (x + 1) hT (by omega) (by rw [show x + 1 - 1 = x by omega, bsn_stop c3]; rfl)
      refine ⟨fun q a b hq => ?_, i2, i3⟩
      by_cases e1 : q = x
      · rw [e1] at hq; omega
      · exact i1 q (by omega) b hq
end Go.Proofs.YtldfejbmdonaoaaDoor.Ts
namespace Go.Proofs.YtldfejbmdonaoaaDoor.Dm
set_option linter.unusedVariables false
def V (f : Nat → Int) : Nat → Int
  | 0 => 0
  | n + 1 => V f n * 10 + (f n - 48)
def S (f : Nat → Int) (r : Nat) : Nat → Int
  | 0 => 0
  | m + 1 => (f r - 48) * 10 ^ m + S f (r + 1) m
def Digs (f : Nat → Int) (n : Nat) : Prop := ∀ i, i < n → 48 ≤ f i ∧ f i ≤ 57
theorem p10 (n : Nat) : (0 : Int) < 10 ^ n := Int.pow_pos (by decide)
theorem p2 (n : Nat) : (0 : Int) < 2 ^ n := Int.pow_pos (by decide)
theorem Digs.mono {f : Nat → Int} {n m : Nat} (h : Digs f n) (hm : m ≤ n) : Digs f m := fun i hi => h i (by omega)
theorem V_bd {f : Nat → Int} : ∀ {n : Nat}, Digs f n → 0 ≤ V f n ∧ V f n < 10 ^ n
  | 0, _ => by simp [V]
  | n + 1, h => by
    have h1 := V_bd (h.mono (Nat.le_succ n))
    have h2 := h n (Nat.lt_succ_self n)
    simp only [V]
    rw [Int.pow_succ]
    omega
theorem V_lo {f : Nat → Int} : ∀ {n : Nat}, Digs f (n + 1) → 49 ≤ f 0 → 10 ^ n ≤ V f (n + 1)
  | 0, _, h0 => by simp [V]; omega
  | n + 1, h, h0 => by
    have h1 := V_lo (h.mono (Nat.le_succ _)) h0
    have h2 := h (n + 1) (Nat.lt_succ_self _)
    rw [V, Int.pow_succ]
    omega
theorem V_split {f : Nat → Int} (r : Nat) : ∀ m, V f (r + m) = V f r * 10 ^ m + S f r m := by
  intro m
  induction m generalizing r with
  | zero => simp [S]
  | succ m ih =>
    have h := ih (r + 1)
    rw [show r + (m + 1) = r + 1 + m by omega, h, S, V, Int.pow_succ, Int.add_mul, Int.mul_assoc, Int.mul_comm 10 (10 ^ m), Int.add_assoc]
theorem V_eq_S (f : Nat → Int) (n : Nat) : V f n = S f 0 n := by
  have := V_split (f := f) 0 n
  simpa [V] using this
theorem S_bd {f : Nat → Int} : ∀ {m r : Nat}, Digs f (r + m) → 0 ≤ S f r m ∧ S f r m < 10 ^ m
  | 0, r, _ => by simp [S]
  | m + 1, r, h => by
    have h1 := S_bd (m := m) (r := r + 1) (by rw [show r + 1 + m = r + (m + 1) by omega]; exact h)
    have h2 := h r (by omega)
    rw [S, Int.pow_succ]
    have hp := p10 m
    have a1 : 0 ≤ (f r - 48) * 10 ^ m := Int.mul_nonneg (by omega) (by omega)
    have a2 : (f r - 48) * 10 ^ m ≤ 9 * 10 ^ m := Int.mul_le_mul_of_nonneg_right (by omega) (by omega)
    omega
def carry (f : Nat → Int) (k r m : Nat) : Int := S f r m * 2 ^ k / 10 ^ m
theorem carry_zero (f : Nat → Int) (k r : Nat) : carry f k r 0 = 0 := by simp [carry, S]
theorem carry_mid (f : Nat → Int) (k r m : Nat) : carry f k (r + 1) m + (f r - 48) * 2 ^ k = S f r (m + 1) * 2 ^ k / 10 ^ m := by
  unfold carry
  rw [S, Int.add_mul, Int.mul_assoc, Int.mul_comm (10 ^ m) (2 ^ k), ← Int.mul_assoc, Int.add_comm ((f r - 48) * 2 ^ k * 10 ^ m), Int.add_mul_ediv_right _ _ (Int.ne_of_gt (p10 m))]
theorem carry_step (f : Nat → Int) (k r m : Nat) : (carry f k (r + 1) m + (f r - 48) * 2 ^ k) / 10 = carry f k r (m + 1) := by
  rw [carry_mid, Int.ediv_ediv_of_nonneg (Int.le_of_lt (p10 m)), ← Int.pow_succ]
  rfl
theorem carry_bd {f : Nat → Int} {k r m : Nat} (h : Digs f (r + m)) : 0 ≤ carry f k r m ∧ carry f k r m < 2 ^ k := by
  have h1 := S_bd h
  have hp := p2 k
  have hq := p10 m
  constructor
  · exact Int.ediv_nonneg (Int.mul_nonneg h1.1 (Int.le_of_lt hp)) (Int.le_of_lt hq)
  · refine Int.ediv_lt_of_lt_mul hq ?_
    rw [Int.mul_comm (2 ^ k)]
    exact Int.mul_lt_mul_of_pos_right h1.2 hp
theorem div_in {x a b : Int} (hb : 0 < b) (h0 : a * b ≤ x) : a ≤ x / b := (Int.le_ediv_iff_mul_le hb).mpr h0
theorem div_lt {x a b : Int} (hb : 0 < b) (h0 : x < a * b) : x / b < a := Int.ediv_lt_of_lt_mul hb h0
theorem pow_le {a b : Nat} (h : a ≤ b) : (10 : Int) ^ a ≤ 10 ^ b := by
  obtain ⟨c, rfl⟩ : ∃ c, b = a + c := ⟨b - a, by omega⟩
  rw [Int.pow_add]
  have h1 : (10 : Int) ^ a * 1 ≤ 10 ^ a * 10 ^ c := Int.mul_le_mul_of_nonneg_left (by have := p10 c; omega) (Int.le_of_lt (p10 a))
  omega
structure Cheat (k : Nat) (delta : Nat) (C : Int) (m : Nat) : Prop where
  pos : 1 ≤ delta
  num : C = 5 ^ k
  len : m + delta = k + 1
  lo : (10 : Int) ^ (delta - 1) ≤ 2 ^ k
  hi : (2 : Int) ^ k < 10 ^ delta
theorem five_two (k : Nat) : (5 : Int) ^ k * 2 ^ k = 10 ^ k := by
  rw [← Int.mul_pow]; rfl
theorem shifted {k delta m nd : Nat} {C D : Int} (hc : Cheat k delta C m) (h0 : 0 ≤ D) (hlo : 10 ^ (nd - 1) ≤ D) (h1 : 1 ≤ nd) (hhi : D < 10 ^ nd) :
    (D * 10 ^ m < C * 10 ^ nd → D * 2 ^ k < 10 ^ (nd + (delta - 1)) ∧ 10 ^ (nd + (delta - 1) - 1) ≤ D * 2 ^ k) ∧
    (C * 10 ^ nd ≤ D * 10 ^ m → D * 2 ^ k < 10 ^ (nd + delta) ∧ 10 ^ (nd + delta - 1) ≤ D * 2 ^ k) := by
  have hp2 := p2 k
  have hpm := p10 m
  have e1 : C * 10 ^ nd * 2 ^ k = 10 ^ (nd + (delta - 1)) * 10 ^ m := by
    rw [hc.num, Int.mul_assoc, Int.mul_comm (10 ^ nd), ← Int.mul_assoc, five_two, ← Int.pow_add, ← Int.pow_add]
    congr 1
    have := hc.len
    have := hc.pos
    omega
  have e2 : D * 10 ^ m * 2 ^ k = D * 2 ^ k * 10 ^ m := by rw [Int.mul_assoc, Int.mul_comm (10 ^ m), ← Int.mul_assoc]
  constructor
  · intro h
    constructor
    · have h2 := Int.mul_lt_mul_of_pos_right h hp2
      rw [e1, e2] at h2
      exact Int.lt_of_mul_lt_mul_right h2 (Int.le_of_lt hpm)
    · have h3 : (10 : Int) ^ (nd - 1) * 10 ^ (delta - 1) ≤ D * 2 ^ k := Int.mul_le_mul hlo hc.lo (Int.le_of_lt (p10 _)) h0
      rw [← Int.pow_add] at h3
      rw [show nd + (delta - 1) - 1 = nd - 1 + (delta - 1) by omega]
      exact h3
  · intro h
    constructor
    · rw [Int.pow_add]
      have a1 : D * 2 ^ k < 10 ^ nd * 2 ^ k := Int.mul_lt_mul_of_pos_right hhi hp2
      have a2 : (10 : Int) ^ nd * 2 ^ k ≤ 10 ^ nd * 10 ^ delta := Int.mul_le_mul_of_nonneg_left (Int.le_of_lt hc.hi) (Int.le_of_lt (p10 _))
      omega
    · have h2 := Int.mul_le_mul_of_nonneg_right h (Int.le_of_lt hp2)
      rw [e1, e2] at h2
      have := hc.pos
      rw [show nd + delta - 1 = nd + (delta - 1) by omega]
      exact Int.le_of_mul_le_mul_right h2 hpm
theorem cmp_same {f g : Nat → Int} {i : Nat} (h : ∀ j, j < i → f j = g j) : V f i = V g i := by
  induction i with
  | zero => rfl
  | succ i ih => rw [V, V, ih fun j hj => h j (by omega), h i (by omega)]
theorem scale_lt {a b : Int} {n m i : Nat} {x y : Int} (hi : i ≤ n) (hj : i ≤ m) (hab : a + 1 ≤ b) (hx : x < (a + 1) * 10 ^ (n - i)) (hy : b * 10 ^ (m - i) ≤ y) : x * 10 ^ m < y * 10 ^ n := by
  have e1 : (10 : Int) ^ n = 10 ^ (n - i) * 10 ^ i := by rw [← Int.pow_add]; congr 1; omega
  have e2 : (10 : Int) ^ m = 10 ^ (m - i) * 10 ^ i := by rw [← Int.pow_add]; congr 1; omega
  have h1 : x * 10 ^ m < (a + 1) * 10 ^ (n - i) * 10 ^ m := Int.mul_lt_mul_of_pos_right hx (p10 m)
  have h2 : b * 10 ^ (m - i) * 10 ^ n ≤ y * 10 ^ n := Int.mul_le_mul_of_nonneg_right hy (Int.le_of_lt (p10 n))
  have h3 : (a + 1) * 10 ^ (n - i) * 10 ^ m ≤ b * 10 ^ (m - i) * 10 ^ n := by
    have e3 : (a + 1) * 10 ^ (n - i) * 10 ^ m = (a + 1) * (10 ^ (n - i) * 10 ^ m) := Int.mul_assoc _ _ _
    have e4 : b * 10 ^ (m - i) * 10 ^ n = b * (10 ^ (n - i) * 10 ^ m) := by
      rw [e1, e2, Int.mul_assoc]
      congr 1
      rw [Int.mul_left_comm]
    rw [e3, e4]
    exact Int.mul_le_mul_of_nonneg_right hab (Int.le_of_lt (Int.mul_pos (p10 _) (p10 _)))
  omega
theorem V_head {f : Nat → Int} {i n : Nat} (h : Digs f n) (hi : i ≤ n) : V f i * 10 ^ (n - i) ≤ V f n ∧ V f n < (V f i + 1) * 10 ^ (n - i) := by
  have e := V_split (f := f) i (n - i)
  have b := S_bd (f := f) (r := i) (m := n - i) (by rw [show i + (n - i) = n by omega]; exact h)
  rw [show i + (n - i) = n by omega] at e
  rw [e, Int.add_mul]
  omega
theorem cmp_lt {f g : Nat → Int} {i n m : Nat} (hf : Digs f n) (hg : Digs g m) (hi : i < n) (hj : i < m) (h : ∀ j, j < i → f j = g j) (hlt : f i < g i) : V f n * 10 ^ m < V g m * 10 ^ n := by
  have e := cmp_same h
  refine scale_lt (a := V f (i + 1)) (b := V g (i + 1)) (i := i + 1) hi hj ?_ (V_head hf hi).2 (V_head hg hj).1
  rw [V, V, e]
  omega
theorem cmp_front {f g : Nat → Int} {n m : Nat} (hf : Digs f n) (hm : m ≤ n) (h : ∀ j, j < m → f j = g j) : V g m * 10 ^ n ≤ V f n * 10 ^ m := by
  rw [← cmp_same h, show (10 : Int) ^ n = 10 ^ (n - m) * 10 ^ m by rw [← Int.pow_add]; congr 1; omega, ← Int.mul_assoc]
  exact Int.mul_le_mul_of_nonneg_right (V_head hf hm).1 (Int.le_of_lt (p10 m))
theorem cmp_short {f g : Nat → Int} {n m : Nat} (hg : Digs g m) (hm : n < m) (h : ∀ j, j < n → f j = g j) (hl : 49 ≤ g (m - 1)) : V f n * 10 ^ m < V g m * 10 ^ n := by
  rw [cmp_same h, show (10 : Int) ^ m = 10 ^ (m - n) * 10 ^ n by rw [← Int.pow_add]; congr 1; omega, ← Int.mul_assoc]
  refine Int.mul_lt_mul_of_pos_right ?_ (p10 n)
  obtain ⟨k, rfl⟩ : ∃ k, m = n + (k + 1) := ⟨m - n - 1, by omega⟩
  rw [show n + (k + 1) - n = k + 1 by omega]
  have b := (V_head (f := g) (i := n) (n := n + k) (hg.mono (by omega)) (by omega)).1
  rw [show n + k - n = k by omega] at b
  rw [show n + (k + 1) = n + k + 1 by omega, V, Int.pow_succ, ← Int.mul_assoc]
  rw [show n + (k + 1) - 1 = n + k by omega] at hl
  omega
theorem right_step {n : Int} {k j : Nat} (h0 : 0 ≤ n) (hj : j < k) (hd : (2 : Int) ^ j ∣ n) : (2 : Int) ^ (j + 1) ∣ n % 2 ^ k * 10 := by
  have h1 : (2 : Int) ^ j ∣ n % 2 ^ k := by
    have e : (2 : Int) ^ j ∣ 2 ^ k := by
      obtain ⟨c, rfl⟩ : ∃ c, k = j + c := ⟨k - j, by omega⟩
      exact ⟨2 ^ c, by rw [← Int.pow_add]⟩
    exact (Int.dvd_emod_sub_self (m := 2 ^ k) (x := n)).elim fun q hq => by
      have : n % 2 ^ k = n + 2 ^ k * q := by omega
      rw [this]
      exact Int.dvd_add hd (Int.dvd_trans e ⟨q, rfl⟩)
  obtain ⟨q, hq⟩ := h1
  exact ⟨q * 5, by rw [hq, Int.pow_succ]; simp only [Int.mul_assoc]; congr 1; omega⟩
theorem right_last {n : Int} {k : Nat} (hd : (2 : Int) ^ k ∣ n) : n % 2 ^ k * 10 = 0 := by
  rw [Int.emod_eq_zero_of_dvd hd]; rfl
theorem right_bd {n : Int} (k : Nat) : 0 ≤ n % 2 ^ k ∧ n % 2 ^ k < 2 ^ k := ⟨Int.emod_nonneg _ (Int.ne_of_gt (p2 k)), Int.emod_lt_of_pos _ (p2 k)⟩
end Go.Proofs.YtldfejbmdonaoaaDoor.Dm