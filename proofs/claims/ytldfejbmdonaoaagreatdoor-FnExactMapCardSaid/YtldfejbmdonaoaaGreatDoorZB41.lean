/- Joined by a program of mine from texts of this claim: Sq. -/
import Derived.Test.YtldfejbmdonaoaaGreatDoorZB38
import Derived.Test.YtldfejbmdonaoaaGreatDoorZB40
namespace Go.Proofs.YtldfejbmdonaoaaGreatDoor.Sq
open Go.RowKit YtldfejbmdonaoaaGreatDoorW.PrintWords YtldfejbmdonaoaaGreatDoorW.PrintLast YtldfejbmdonaoaaGreatDoorW.PrintMore Tw Tf Tp Te Tg Ti Sp PFnAppendParse
set_option linter.unusedVariables false
set_option linter.unusedSimpArgs false
def cnt (u : ByteArray) (s2 : Int) : Nat → Int → Int
  | 0, _ => 0
  | n + 1, x => if bt u x = 92 then 1 + cnt u s2 n (x - 1) else 0
def bsn (u : ByteArray) (s2 x : Int) : Int := cnt u s2 (x - s2 + 1).toNat x
section
variable {u : ByteArray} {s2 x : Int}
theorem bsn_low (h : x < s2) : bsn u s2 x = 0 := by
  unfold bsn
  rw [show (x - s2 + 1).toNat = 0 by omega]
  rfl
theorem bsn_step (h : s2 ≤ x) (hc : bt u x = 92) : bsn u s2 x = 1 + bsn u s2 (x - 1) := by
  unfold bsn
  obtain ⟨n, hn⟩ : ∃ n : Nat, (x - s2 + 1).toNat = n + 1 := ⟨(x - s2 + 1).toNat - 1, by omega⟩
  rw [hn, show (x - 1 - s2 + 1).toNat = n by omega]
  simp [cnt, hc]
theorem bsn_stop (hc : bt u x ≠ 92) : bsn u s2 x = 0 := by
  unfold bsn
  cases (x - s2 + 1).toNat with
  | zero => rfl
  | succ n => simp [cnt, hc]
theorem cnt_nonneg : ∀ (n : Nat) (x : Int), 0 ≤ cnt u s2 n x ∧ cnt u s2 n x ≤ n
  | 0, x => by simp [cnt]
  | n + 1, x => by
    have := cnt_nonneg n (x - 1)
    unfold cnt
    split <;> omega
theorem bsn_range : 0 ≤ bsn u s2 x ∧ bsn u s2 x ≤ (x - s2 + 1).toNat := cnt_nonneg _ _
def L1 (u : ByteArray) (x d s2 : Int) (r : ByteArray) : Prop := ∃ k, gjson_squash.l1 k u x d s2 = some r
def L0 (u : ByteArray) (x d : Int) (r : ByteArray) : Prop := ∃ k, gjson_squash.l0 k u x d = some r
def J5 (u : ByteArray) (x d : Int) (r : ByteArray) : Prop := ∃ k, gjson_squash.j5 k u x d = some r
variable (hu : (u.size : Int) ≤ 2147483647) (h0 : 0 ≤ s2)
include hu h0
theorem l2_go {d x3 : Int} {r : ByteArray} (h3 : 0 ≤ x3 ∧ x3 < (u.size : Int)) : ∀ (m : Nat) (n x7 : Int), (x7 - s2 + 1).toNat = m → s2 - 1 ≤ x7 → x7 < (u.size : Int) → 0 ≤ n → n + m ≤ 3000000000 →
    ((n + bsn u s2 x7) % 2 = 0 → L1 u (x3 + 1) d s2 r → ∃ k, gjson_squash.l2 k u x3 d s2 n x7 = some r) ∧
    ((n + bsn u s2 x7) % 2 = 1 → J5 u x3 d r → ∃ k, gjson_squash.l2 k u x3 d s2 n x7 = some r) := by
  intro m
  induction m with
  | zero =>
    intro n x7 hm h1 h2 hn hb
    rw [bsn_low (by omega)]
    constructor
    · rintro he ⟨k, h⟩
      refine ⟨k + 1, ?_⟩
      rw [gjson_squash.l2, w64 (n := s2 - 1) (by omega), if_neg (by omega), Int.tmod_eq_emod_of_nonneg hn, if_pos (by omega), w64 (n := x3 + 1) (by omega)]
      exact h
    · rintro he ⟨k, h⟩
      refine ⟨k + 1, ?_⟩
      rw [gjson_squash.l2, w64 (n := s2 - 1) (by omega), if_neg (by omega), Int.tmod_eq_emod_of_nonneg hn, if_neg (by omega)]
      exact h
  | succ m ih =>
    intro n x7 hm h1 h2 hn hb
    by_cases c : bt u x7 = 92
    · have hi := ih (n + 1) (x7 - 1) (by omega) (by omega) (by omega) (by omega) (by omega)
      rw [bsn_step (by omega) c]
      have up : ∀ k, gjson_squash.l2 k u x3 d s2 (n + 1) (x7 - 1) = some r → ∃ k, gjson_squash.l2 k u x3 d s2 n x7 = some r := by
        intro k h
        refine ⟨k + 1, ?_⟩
        rw [gjson_squash.l2, w64 (n := s2 - 1) (by omega), if_pos (by omega), if_pos (by omega), if_pos (by omega), if_pos c, w64 (n := n + 1) (by omega), w64 (n := x7 - 1) (by omega)]
        exact h
      constructor
      · intro he h
        obtain ⟨k, h⟩ := hi.1 (by omega) h
        exact up k h
      · intro he h
        obtain ⟨k, h⟩ := hi.2 (by omega) h
        exact up k h
    · rw [bsn_stop c]
      constructor
      · rintro he ⟨k, h⟩
        refine ⟨k + 1, ?_⟩
        rw [gjson_squash.l2, w64 (n := s2 - 1) (by omega), if_pos (by omega), if_pos (by omega), if_pos (by omega), if_neg c, Int.tmod_eq_emod_of_nonneg hn, if_pos (by omega), w64 (n := x3 + 1) (by omega)]
        exact h
      · rintro he ⟨k, h⟩
        refine ⟨k + 1, ?_⟩
        rw [gjson_squash.l2, w64 (n := s2 - 1) (by omega), if_pos (by omega), if_pos (by omega), if_pos (by omega), if_neg c, Int.tmod_eq_emod_of_nonneg hn, if_neg (by omega)]
        exact h
theorem l1_plain {d : Int} {r : ByteArray} (h1 : s2 ≤ x) (h2 : x < (u.size : Int)) (hc : bt u x ≠ 34) (h : L1 u (x + 1) d s2 r) : L1 u x d s2 r := by
  obtain ⟨k, h⟩ := h
  refine ⟨k + 1, ?_⟩
  rw [gjson_squash.l1, if_pos h2, if_pos (by omega), w64 (n := x + 1) (by omega)]
  by_cases c : bt u x > 92
  · rw [if_pos c]; exact h
  · rw [if_neg c, if_neg hc]; exact h
theorem l1_skip {d : Int} {r : ByteArray} : ∀ (n : Nat) (x : Int), s2 ≤ x → x + n ≤ (u.size : Int) → (∀ p, x ≤ p → p < x + n → bt u p ≠ 34) → L1 u (x + n) d s2 r → L1 u x d s2 r
  | 0, x, _, _, _, h => by rw [show x = x + ((0 : Nat) : Int) by omega]; exact h
  | n + 1, x, h1, h2, hc, h => by
    refine l1_plain hu h0 h1 (by omega) (hc x (by omega) (by omega)) ?_
    refine l1_skip n (x + 1) (by omega) (by omega) (fun p h3 h4 => hc p (by omega) (by omega)) ?_
    rw [show x + 1 + (n : Int) = x + ((n + 1 : Nat) : Int) by omega]
    exact h
theorem l1_quote {d : Int} {r : ByteArray} (hs1 : 1 ≤ s2) (hq : bt u (s2 - 1) = 34) (h1 : s2 ≤ x) (h2 : x < (u.size : Int)) (hc : bt u x = 34) :
    (bsn u s2 (x - 1) % 2 = 0 → J5 u x d r → L1 u x d s2 r) ∧ (bsn u s2 (x - 1) % 2 = 1 → L1 u (x + 1) d s2 r → L1 u x d s2 r) := by
  by_cases c : bt u (x - 1) = 92
  · have hx : s2 ≤ x - 1 := by
      by_cases h : x = s2
      · subst h; rw [hq] at c; exact absurd c (by decide)
      · omega
    have hb := bsn_step (u := u) hx c
    have hr := bsn_range (u := u) (s2 := s2) (x := x - 1 - 1)
    have hi := l2_go hu h0 (d := d) (r := r) (x3 := x) ⟨by omega, h2⟩ _ 0 (x - 2) rfl (by omega) (by omega) (by omega) (by omega)
    have up : ∀ k, gjson_squash.l2 k u x d s2 0 (x - 2) = some r → L1 u x d s2 r := by
      intro k h
      refine ⟨k + 1, ?_⟩
      rw [gjson_squash.l1, if_pos h2, if_pos (by omega), if_neg (by omega), if_pos hc, w64 (n := x - 1) (by omega), if_pos (by omega), if_pos (by omega), if_pos c, w64 (n := x - 2) (by omega)]
      exact h
    rw [show x - 1 - 1 = x - 2 by omega] at hb hr
    constructor
    · intro he h
      obtain ⟨k, h⟩ := hi.2 (by omega) h
      exact up k h
    · intro he h
      obtain ⟨k, h⟩ := hi.1 (by omega) h
      exact up k h
  · rw [bsn_stop c]
    constructor
    · rintro _ ⟨k, h⟩
      refine ⟨k + 1, ?_⟩
      rw [gjson_squash.l1, if_pos h2, if_pos (by omega), if_neg (by omega), if_pos hc, w64 (n := x - 1) (by omega), if_pos (by omega), if_pos (by omega), if_neg c]
      exact h
    · intro h
      exact absurd h (by decide)
end
def Win (u s : ByteArray) (lo hi : Int) : Prop := 0 ≤ lo ∧ hi ≤ (s.size : Int) ∧ hi - lo ≤ (u.size : Int) ∧ ∀ p, lo ≤ p → p < hi → bt u (p - lo) = bt s p
theorem hx_not {c : Int} (h : hx c = true) : c ≠ 34 ∧ c ≠ 92 := by
  simp only [hx, Bool.or_eq_true, Bool.and_eq_true, decide_eq_true_eq] at h
  omega
theorem hex4_not {s : ByteArray} {i : Int} (h : hex4 s i = true) : ∀ p, i ≤ p → p < i + 4 → bt s p ≠ 34 ∧ bt s p ≠ 92 := by
  simp only [hex4, Bool.and_eq_true] at h
  obtain ⟨⟨⟨a1, a2⟩, a3⟩, a4⟩ := h
  intro p h1 h2
  have : p = i ∨ p = i + 1 ∨ p = i + 2 ∨ p = i + 3 := by omega
  rcases this with rfl | rfl | rfl | rfl
  · exact hx_not a1
  · exact hx_not a2
  · exact hx_not a3
  · exact hx_not a4
theorem esc_shape {s : ByteArray} {i : Int} {l : List Int} {p : Bool} {j : Int} (h : escR s i = some (l, p, j)) :
    (bt s i ≠ 117 ∧ esc (bt s i) = true ∧ j = i + 1) ∨ (i + 5 ≤ j ∧ bt s (j - 1) ≠ 92 ∧ ∀ p, i ≤ p → p < j → bt s p ≠ 34) := by
  unfold escR at h
  by_cases c1 : bt s i = 117
  · rw [if_pos c1] at h
    right
    by_cases c2 : hex4 s (i + 1) = true
    · have n1 := hex4_not c2
      rw [if_pos c2] at h
      have one : ∀ l' p', some (l', p', i + 5) = some (l, p, j) → i + 5 ≤ j ∧ bt s (j - 1) ≠ 92 ∧ ∀ p, i ≤ p → p < j → bt s p ≠ 34 := by
        intro l' p' h
        simp only [Option.some.injEq, Prod.mk.injEq] at h
        obtain ⟨_, _, rfl⟩ := h
        refine ⟨by omega, (n1 _ (by omega) (by omega)).2, fun p h1 h2 => ?_⟩
        by_cases h3 : p = i
        · rw [h3, c1]; decide
        · exact (n1 p (by omega) (by omega)).1
      by_cases c3 : hexV s (i + 1) < 55296 ∨ hexV s (i + 1) > 57343
      · rw [if_pos c3] at h; exact one _ _ h
      · rw [if_neg c3] at h
        by_cases c4 : hexV s (i + 1) ≥ 56320 ∨ i + 6 ≥ (s.size : Int) ∨ bt s (i + 5) ≠ 92 ∨ bt s (i + 6) ≠ 117
        · rw [if_pos c4] at h; exact one _ _ h
        · rw [if_neg c4] at h
          have d5 : bt s (i + 5) = 92 := Decidable.byContradiction fun x => c4 (.inr (.inr (.inl x)))
          have d6 : bt s (i + 6) = 117 := Decidable.byContradiction fun x => c4 (.inr (.inr (.inr x)))
          by_cases c5 : hex4 s (i + 7) = true
          · have n2 := hex4_not c5
            rw [if_pos c5] at h
            have two : ∀ l' p', some (l', p', i + 11) = some (l, p, j) → i + 5 ≤ j ∧ bt s (j - 1) ≠ 92 ∧ ∀ p, i ≤ p → p < j → bt s p ≠ 34 := by
              intro l' p' h
              simp only [Option.some.injEq, Prod.mk.injEq] at h
              obtain ⟨_, _, rfl⟩ := h
              refine ⟨by omega, (n2 _ (by omega) (by omega)).2, fun p h1 h2 => ?_⟩
              by_cases h3 : p = i
              · rw [h3, c1]; decide
              by_cases h4 : p = i + 5
              · rw [h4, d5]; decide
              by_cases h5 : p = i + 6
              · rw [h5, d6]; decide
              by_cases h6 : p < i + 5
              · exact (n1 p (by omega) (by omega)).1
              · exact (n2 p (by omega) (by omega)).1
            split at h
            · exact two _ _ h
            · exact two _ _ h
          · rw [if_neg c5] at h
            exact absurd h (by simp)
    · rw [if_neg c2] at h
      exact absurd h (by simp)
  · rw [if_neg c1] at h
    left
    by_cases c2 : esc (bt s i) = true
    · rw [if_pos c2] at h
      simp only [Option.some.injEq, Prod.mk.injEq] at h
      exact ⟨c1, c2, h.2.2.symm⟩
    · rw [if_neg c2] at h
      exact absurd h (by simp)
section
variable {u s : ByteArray} {lo hi : Int} (hu : (u.size : Int) ≤ 2147483647) (hw : Win u s lo hi)
include hu hw
theorem str_pass {d s2 : Int} {r : ByteArray} (hs2 : lo + 1 ≤ s2) (hq : bt u (s2 - lo - 1) = 34) : ∀ (n : Nat) (x : Int) (l : List Int) (p : Bool) (j : Int), textR s n x = some (l, p, j) → s2 ≤ x → j ≤ hi → bsn u (s2 - lo) (x - lo - 1) % 2 = 0 → J5 u (j - 1 - lo) d r → L1 u (x - lo) d (s2 - lo) r := by
  obtain ⟨w0, w1, w2, w3⟩ := hw
  intro n
  induction n with
  | zero => intro x l p j h; exact absurd h (by simp [textR])
  | succ n ih =>
    intro x l p j h h1 hj hb hg
    have hle := strR_le _ _ h
    have hx : bt u (x - lo) = bt s x := w3 x (by omega) (by omega)
    unfold textR at h
    by_cases c1 : bt s x < 32
    · rw [if_pos c1] at h; exact absurd h (by simp)
    rw [if_neg c1] at h
    by_cases c2 : bt s x = 34
    · rw [if_pos c2] at h
      simp only [Option.some.injEq, Prod.mk.injEq] at h
      obtain ⟨_, _, rfl⟩ := h
      refine (l1_quote hu (by omega) (s2 := s2 - lo) (x := x - lo) (by omega) hq (by omega) (by omega) (by rw [hx, c2])).1 hb ?_
      rw [show x + 1 - 1 - lo = x - lo by omega] at hg
      exact hg
    rw [if_neg c2] at h
    by_cases c3 : bt s x = 92
    · rw [if_pos c3] at h
      replace h := Option.bind_eq_some_iff.mp h
      obtain ⟨⟨l1, p1, j1⟩, he, h⟩ := h
      replace h := Option.bind_eq_some_iff.mp h
      obtain ⟨⟨l2, p2, j2⟩, hr, h⟩ := h
      simp only [Option.some.injEq, Prod.mk.injEq] at h
      obtain ⟨_, _, rfl⟩ := h
      have e1 := escR_le he
      have e2 : j1 + 1 ≤ j2 ∧ j2 ≤ (s.size : Int) := strR_le _ _ hr
      have hbx : bsn u (s2 - lo) (x - lo) = 1 + bsn u (s2 - lo) (x - lo - 1) := bsn_step (by omega) (by rw [hx, c3])
      rcases esc_shape he with ⟨_, d2, d3⟩ | ⟨d1, d2, d3⟩
      · replace d3 : j1 = x + 1 + 1 := d3
        have hy : bt u (x - lo + 1) = bt s (x + 1) := by rw [show x - lo + 1 = x + 1 - lo by omega]; exact w3 (x + 1) (by omega) (by omega)
        have hgo : L1 u (j1 - lo) d (s2 - lo) r := by
          refine ih j1 l2 p2 j2 hr (by omega) hj ?_ hg
          rw [show j1 - lo - 1 = x - lo + 1 by omega]
          by_cases c : bt u (x - lo + 1) = 92
          · rw [bsn_step (by omega) c, show x - lo + 1 - 1 = x - lo by omega]
            omega
          · rw [bsn_stop c]; rfl
        rw [show j1 - lo = x - lo + 1 + 1 by omega] at hgo
        refine l1_plain hu (by omega) (by omega) (by omega) (by rw [hx]; exact c2) ?_
        by_cases c : bt u (x - lo + 1) = 34
        · exact (l1_quote hu (by omega) (s2 := s2 - lo) (x := x - lo + 1) (by omega) hq (by omega) (by omega) c).2 (by rw [show x - lo + 1 - 1 = x - lo by omega]; omega) hgo
        · exact l1_plain hu (by omega) (by omega) (by omega) c hgo
      · have hgo : L1 u (j1 - lo) d (s2 - lo) r := by
          refine ih j1 l2 p2 j2 hr (by omega) hj ?_ hg
          rw [bsn_stop]
          · rfl
          · rw [show j1 - lo - 1 = j1 - 1 - lo by omega, w3 (j1 - 1) (by omega) (by omega)]
            exact d2
        have hn : x - lo + ((j1 - x).toNat : Int) = j1 - lo := by omega
        refine l1_skip hu (by omega) (j1 - x).toNat (x - lo) (by omega) (by omega) (fun q h2 h3 => ?_) (by rw [hn]; exact hgo)
        have : bt u q = bt s (q + lo) := by
          have := w3 (q + lo) (by omega) (by omega)
          rw [show q + lo - lo = q by omega] at this
          exact this
        rw [this]
        by_cases h4 : q + lo = x
        · rw [h4]; exact c2
        · exact d3 (q + lo) (by omega) (by omega)
    · rw [if_neg c3] at h
      replace h := Option.bind_eq_some_iff.mp h
      obtain ⟨⟨l2, p2, j2⟩, hr, h⟩ := h
      simp only [Option.some.injEq, Prod.mk.injEq] at h
      obtain ⟨_, _, rfl⟩ := h
      have e2 : x + 1 + 1 ≤ j2 ∧ j2 ≤ (s.size : Int) := strR_le _ _ hr
      have hgo : L1 u (x + 1 - lo) d (s2 - lo) r := by
        refine ih (x + 1) l2 p2 j2 hr (by omega) hj ?_ hg
        rw [show x + 1 - lo - 1 = x - lo by omega, bsn_stop (by rw [hx]; exact c3)]
        rfl
      rw [show x + 1 - lo = x - lo + 1 by omega] at hgo
      exact l1_plain hu (by omega) (by omega) (by omega) (by rw [hx]; exact c2) hgo
theorem str_whole {d i j : Int} {r : ByteArray} {l : List Int} {p : Bool} (hd : 0 ≤ d) (h1 : lo ≤ i) (hj : j ≤ hi) (hq : bt s i = 34) (hr : strR s (i + 1) = some (l, p, j)) (hg : J5 u (j - 1 - lo) d r) : L0 u (i - lo) d r := by
  have hle := strR_le _ _ hr
  have hx : bt u (i - lo) = 34 := by rw [hw.2.2.2 i (by omega) (by omega)]; exact hq
  have w2 := hw.2.2.1
  obtain ⟨k, h⟩ := str_pass hu hw (d := d) (s2 := i + 1) (r := r) (by omega) (by rw [show i + 1 - lo - 1 = i - lo by omega]; exact hx) _ (i + 1) l p j hr (by omega) hj (by rw [bsn_low (by omega)]; rfl) hg
  refine ⟨k + 2, ?_⟩
  rw [show i + 1 - lo = i - lo + 1 by omega] at h
  rw [gjson_squash.l0, if_pos (by omega), if_pos (by omega), hx, if_pos (by decide), gjson_squash.j2, if_pos (by decide), if_pos (by omega), if_pos (by omega), hx, if_pos rfl, w64 (n := i - lo + 1) (by omega)]
  exact h
end
def dull (c : Int) : Prop := c ≠ 34 ∧ c ≠ 123 ∧ c ≠ 91 ∧ c ≠ 40 ∧ c ≠ 125 ∧ c ≠ 93 ∧ c ≠ 41
section
variable {u : ByteArray} (hu : (u.size : Int) ≤ 2147483647) {x d : Int} {r : ByteArray}
include hu
theorem l0_dull (h0 : 0 ≤ x) (h1 : x < (u.size : Int)) (hc : dull (bt u x)) (h : L0 u (x + 1) d r) : L0 u x d r := by
  obtain ⟨k, h⟩ := h
  obtain ⟨a1, a2, a3, a4, a5, a6, a7⟩ := hc
  have m1 : gjson_squash.l0 (k + 1) u (x + 1) d = some r := (gjson_squash.mono_l k).2.1 _ _ _ r h
  have m2 : gjson_squash.l0 (k + 1 + 1) u (x + 1) d = some r := (gjson_squash.mono_l (k + 1)).2.1 _ _ _ r m1
  refine ⟨k + 4, ?_⟩
  rw [gjson_squash.l0, if_pos h1, if_pos h0]
  by_cases c1 : bt u x ≥ 34
  · rw [if_pos c1]
    by_cases c2 : bt u x ≤ 125
    · rw [gjson_squash.j2, if_pos (decide_eq_true c2), if_pos h0, if_pos h1, if_neg a1, if_neg a2, if_neg a3, gjson_squash.j6, if_neg (by simpa using a4), if_neg a5, if_neg a6, gjson_squash.j7, if_neg (by simpa using a7), w64 (n := x + 1) (by omega)]
      exact h
    · rw [gjson_squash.j2, if_neg (by simpa using c2), w64 (n := x + 1) (by omega)]
      exact m2
  · rw [if_neg c1, gjson_squash.j2, if_neg (by decide), w64 (n := x + 1) (by omega)]
    exact m2
theorem l0_skip : ∀ (n : Nat) (x : Int), 0 ≤ x → x + n ≤ (u.size : Int) → (∀ p, x ≤ p → p < x + n → dull (bt u p)) → L0 u (x + n) d r → L0 u x d r
  | 0, x, _, _, _, h => by rw [show x = x + ((0 : Nat) : Int) by omega]; exact h
  | n + 1, x, h1, h2, hc, h => by
    refine l0_dull hu h1 (by omega) (hc x (by omega) (by omega)) ?_
    refine l0_skip n (x + 1) (by omega) (by omega) (fun p h3 h4 => hc p (by omega) (by omega)) ?_
    rw [show x + 1 + (n : Int) = x + ((n + 1 : Nat) : Int) by omega]
    exact h
theorem l0_open (h0 : 0 ≤ x) (h1 : x < (u.size : Int)) (hd : 0 ≤ d ∧ d ≤ 2000000) (hc : bt u x = 123 ∨ bt u x = 91) (h : L0 u (x + 1) (d + 1) r) : L0 u x d r := by
  obtain ⟨k, h⟩ := h
  refine ⟨k + 3, ?_⟩
  rw [gjson_squash.l0, if_pos h1, if_pos h0, if_pos (by omega), gjson_squash.j2, if_pos (decide_eq_true (by omega)), if_pos h0, if_pos h1, if_neg (by omega)]
  rcases hc with c | c
  · rw [if_pos c, gjson_squash.j6, if_pos (by simpa using c), w64 (n := x + 1) (by omega), w64 (n := d + 1) (by omega)]
    exact h
  · rw [if_neg (by omega), if_pos c, gjson_squash.j6, if_pos (by simpa using c), w64 (n := x + 1) (by omega), w64 (n := d + 1) (by omega)]
    exact h
theorem l0_close (h0 : 0 ≤ x) (h1 : x < (u.size : Int)) (hd : 1 ≤ d ∧ d ≤ 2000000) (hc : bt u x = 125 ∨ bt u x = 93) : (2 ≤ d → L0 u (x + 1) (d - 1) r → L0 u x d r) ∧ (d = 1 → r = u.extract 0 (x + 1).toNat → L0 u x d r) := by
  have go : ∀ k, gjson_squash.l0 (k + 4) u x d = if d - 1 = 0 then some (u.extract 0 (x + 1).toNat) else gjson_squash.l0 k u (x + 1) (d - 1) := by
    intro k
    rw [gjson_squash.l0, if_pos h1, if_pos h0, if_pos (by omega), gjson_squash.j2, if_pos (decide_eq_true (by omega)), if_pos h0, if_pos h1, if_neg (by omega), if_neg (by omega), if_neg (by omega), gjson_squash.j6,
      if_neg (by simp; omega)]
    have j7 : ∀ b : Bool, b = true → gjson_squash.j7 (k + 1) u x d b = if d - 1 = 0 then some (u.extract 0 (x + 1).toNat) else gjson_squash.l0 k u (x + 1) (d - 1) := by
      intro b hb
      rw [gjson_squash.j7, if_pos hb, w64 (n := d - 1) (by omega), w64 (n := x + 1) (by omega)]
      by_cases c : d - 1 = 0
      · rw [if_pos c, if_pos c, if_pos (by omega), if_pos (by omega)]
      · rw [if_neg c, if_neg c]
    rcases hc with c | c
    · rw [if_pos c]; exact j7 _ (by simpa using c)
    · rw [if_neg (by omega), if_pos c]; exact j7 _ (by simpa using c)
  constructor
  · rintro h2 ⟨k, h⟩
    refine ⟨k + 4, ?_⟩
    rw [go, if_neg (by omega)]
    exact h
  · rintro h2 rfl
    refine ⟨4, ?_⟩
    rw [go 0, if_pos (by omega)]
theorem j5_on (h0 : 0 ≤ x) (h1 : x < (u.size : Int)) : (d ≠ 0 → L0 u (x + 1) d r → J5 u x d r) ∧ (d = 0 → r = u.extract 0 (x + 1).toNat → J5 u x d r) := by
  constructor
  · rintro h2 ⟨k, h⟩
    refine ⟨k + 1, ?_⟩
    rw [gjson_squash.j5, if_neg h2, w64 (n := x + 1) (by omega)]
    exact h
  · rintro h2 rfl
    refine ⟨1, ?_⟩
    rw [gjson_squash.j5, if_pos h2, if_neg (by omega), w64 (n := x + 1) (by omega), if_pos (by omega), if_pos (by omega)]
end
end Go.Proofs.YtldfejbmdonaoaaGreatDoor.Sq