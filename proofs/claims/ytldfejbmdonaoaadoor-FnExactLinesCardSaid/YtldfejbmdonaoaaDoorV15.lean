/- Joined by a program of mine from texts of this claim: Te. -/
import Derived.Test.YtldfejbmdonaoaaDoorV14
namespace Go.Proofs.YtldfejbmdonaoaaDoor.Te
open Go.RowKit YtldfejbmdonaoaaDoorW.PrintWords YtldfejbmdonaoaaDoorW.PrintLast YtldfejbmdonaoaaDoorW.PrintMore Tw Tf Tp Sp
set_option linter.unusedVariables false
set_option linter.unusedSimpArgs false
def hx (c : Int) : Bool := (decide (48 ≤ c) && decide (c ≤ 57)) || (decide (97 ≤ c) && decide (c ≤ 102)) || (decide (65 ≤ c) && decide (c ≤ 70))
def hv (c : Int) : Int := if c ≤ 57 then c - 48 else if 97 ≤ c then c - 87 else c - 55
def hex4 (s : ByteArray) (i : Int) : Bool := hx (bt s i) && hx (bt s (i + 1)) && hx (bt s (i + 2)) && hx (bt s (i + 3))
def hexV (s : ByteArray) (i : Int) : Int := ((hv (bt s i) * 16 + hv (bt s (i + 1))) * 16 + hv (bt s (i + 2))) * 16 + hv (bt s (i + 3))
section
variable {s : ByteArray} {i : Int}
theorem hv_range {c : Int} (h : hx c = true) : 0 ≤ hv c ∧ hv c ≤ 15 ∧ c ≠ 0 := by
  simp only [hx, Bool.or_eq_true, Bool.and_eq_true, decide_eq_true_eq] at h
  unfold hv
  split
  · omega
  · split <;> omega
theorem hx_lt (h : hx (bt s i) = true) : i < (s.size : Int) := lt_of_bt (hv_range h).2.2
theorem w64 {n : Int} (h : -9000000000000000000 ≤ n ∧ n ≤ 9000000000000000000) : wrap64 n = n := by unfold wrap64; omega
theorem hex_step (hs : (s.size : Int) ≤ 2147483647) (h0 : 0 ≤ i) {x3 x5 : Int} (h3 : 0 ≤ x3 ∧ x3 ≤ 65535) (h5 : 0 ≤ x5 ∧ x5 < 4) (b : Bool) (hh : hx (bt s i) = true) (k : Nat) (r : Int × ByteArray × Int × Bool)
    (h : spec_reading_hex.l0 k (x3 * 16 + hv (bt s i)) (x5 + 1) s (i + 1) b = some r) : spec_reading_hex.l0 (k + 3) x3 x5 s i b = some r := by
  have hlt := hx_lt hh
  have hb := bt_range s i
  have hm : spec_reading_hex.l0 (k + 1) (x3 * 16 + hv (bt s i)) (x5 + 1) s (i + 1) b = some r := (spec_reading_hex.mono_l k).1 _ _ _ _ _ r h
  have e1 : wrap64 (bt s i) = bt s i := w64 (by omega)
  have e2 : wrap64 (i + 1) = i + 1 := w64 (by omega)
  have e3 : wrap64 (x5 + 1) = x5 + 1 := w64 (by omega)
  have e4 : wrap64 (x3 * 16) = x3 * 16 := w64 (by omega)
  simp only [hx, Bool.or_eq_true, Bool.and_eq_true, decide_eq_true_eq] at hh
  rw [spec_reading_hex.l0, if_pos h5.2, next_eq h0]
  simp only [Option.bind_some]
  rw [e1]
  by_cases c1 : bt s i ≥ 48
  · rw [if_pos c1, spec_reading_hex.j1]
    by_cases c2 : bt s i ≤ 57
    · rw [if_pos (decide_eq_true c2), e2, e3, e4, w64 (n := bt s i - 48) (by omega), w64 (n := x3 * 16 + (bt s i - 48)) (by omega)]
      have : hv (bt s i) = bt s i - 48 := by unfold hv; rw [if_pos c2]
      rw [← this]
      exact hm
    · rw [if_neg (by simpa using c2)]
      by_cases c3 : bt s i ≥ 97
      · have c4 : bt s i ≤ 102 := by omega
        rw [if_pos c3, spec_reading_hex.j2, if_pos (decide_eq_true c4), e2, e3, e4, w64 (n := bt s i - 87) (by omega), w64 (n := x3 * 16 + (bt s i - 87)) (by omega)]
        have : hv (bt s i) = bt s i - 87 := by unfold hv; rw [if_neg c2, if_pos c3]
        rw [← this]
        exact h
      · have c4 : bt s i ≥ 65 := by omega
        have c5 : bt s i ≤ 70 := by omega
        rw [if_neg c3, spec_reading_hex.j2, if_neg (by decide), if_pos c4, if_pos c5, e2, e3, e4, w64 (n := bt s i - 55) (by omega), w64 (n := x3 * 16 + (bt s i - 55)) (by omega)]
        have : hv (bt s i) = bt s i - 55 := by unfold hv; rw [if_neg c2, if_neg c3]
        rw [← this]
        exact h
  · omega
theorem hex_stop (h0 : 0 ≤ i) {x3 x5 : Int} (h5 : 0 ≤ x5 ∧ x5 < 4) (b : Bool) (hh : hx (bt s i) = false) (k : Nat) : spec_reading_hex.l0 (k + 3) x3 x5 s i b = some (0, s, i, true) := by
  have hb := bt_range s i
  have e1 : wrap64 (bt s i) = bt s i := w64 (by omega)
  have hh' : ¬ (hx (bt s i) = true) := by rw [hh]; decide
  simp only [hx, Bool.or_eq_true, Bool.and_eq_true, decide_eq_true_eq] at hh'
  rw [spec_reading_hex.l0, if_pos h5.2, next_eq h0]
  simp only [Option.bind_some]
  rw [e1]
  by_cases c1 : bt s i ≥ 48
  · rw [if_pos c1, spec_reading_hex.j1, if_neg (by simp; omega)]
    by_cases c3 : bt s i ≥ 97
    · rw [if_pos c3, spec_reading_hex.j2, if_neg (by simp; omega), if_pos (by omega), if_neg (by omega)]
    · rw [if_neg c3, spec_reading_hex.j2, if_neg (by decide)]
      by_cases c4 : bt s i ≥ 65
      · rw [if_pos c4, if_neg (by omega)]
      · rw [if_neg c4]
  · rw [if_neg c1, spec_reading_hex.j1, if_neg (by decide), if_neg (by omega), spec_reading_hex.j2, if_neg (by decide), if_neg (by omega)]
theorem hex_good (hs : (s.size : Int) ≤ 2147483647) (h0 : 0 ≤ i) (b : Bool) {k : Nat} (hk : 13 ≤ k) (h : hex4 s i = true) : spec_reading_hex.f k s i b = some (hexV s i, s, i + 4, b) := by
  obtain ⟨k, rfl⟩ : ∃ k', k = k' + 13 := ⟨k - 13, by omega⟩
  simp only [hex4, Bool.and_eq_true] at h
  obtain ⟨⟨⟨a1, a2⟩, a3⟩, a4⟩ := h
  have r1 := hv_range a1
  have r2 := hv_range a2
  have r3 := hv_range a3
  have r4 := hv_range a4
  unfold spec_reading_hex.f hexV
  refine hex_step hs h0 (by omega) (by omega) b a1 _ _ ?_
  refine hex_step hs (by omega) (by omega) (by omega) b a2 _ _ ?_
  rw [show i + 1 + 1 = i + 2 by omega]
  refine hex_step hs (by omega) (by omega) (by omega) b a3 _ _ ?_
  rw [show i + 2 + 1 = i + 3 by omega]
  refine hex_step hs (by omega) (by omega) (by omega) b a4 _ _ ?_
  rw [show i + 3 + 1 = i + 4 by omega, spec_reading_hex.l0, if_neg (by decide)]
  simp
theorem hex_bad (hs : (s.size : Int) ≤ 2147483647) (h0 : 0 ≤ i) (hi : i ≤ (s.size : Int)) (b : Bool) {k : Nat} (hk : 13 ≤ k) (h : hex4 s i = false) : ∃ j, i ≤ j ∧ j ≤ (s.size : Int) ∧ spec_reading_hex.f k s i b = some (0, s, j, true) := by
  obtain ⟨k, rfl⟩ : ∃ k', k = k' + 13 := ⟨k - 13, by omega⟩
  unfold spec_reading_hex.f
  cases a1 : hx (bt s i) with
  | false => exact ⟨i, by omega, hi, hex_stop h0 (by omega) b a1 _⟩
  | true =>
    have r1 := hv_range a1
    have l1 := hx_lt a1
    cases a2 : hx (bt s (i + 1)) with
    | false => exact ⟨i + 1, by omega, by omega, hex_step hs h0 (by omega) (by omega) b a1 _ _ (hex_stop (by omega) (by omega) b a2 _)⟩
    | true =>
      have r2 := hv_range a2
      have l2 := hx_lt a2
      cases a3 : hx (bt s (i + 2)) with
      | false => exact ⟨i + 2, by omega, by omega, hex_step hs h0 (by omega) (by omega) b a1 _ _ (hex_step hs (by omega) (by omega) (by omega) b a2 _ _ (by
          rw [show i + 1 + 1 = i + 2 by omega]
          exact hex_stop (by omega) (by omega) b a3 _))⟩
      | true =>
        have r3 := hv_range a3
        have l3 := hx_lt a3
        cases a4 : hx (bt s (i + 3)) with
        | false => exact ⟨i + 3, by omega, by omega, hex_step hs h0 (by omega) (by omega) b a1 _ _ (hex_step hs (by omega) (by omega) (by omega) b a2 _ _ (by
            rw [show i + 1 + 1 = i + 2 by omega]
            refine hex_step hs (by omega) (by omega) (by omega) b a3 _ _ ?_
            rw [show i + 2 + 1 = i + 3 by omega]
            exact hex_stop (by omega) (by omega) b a4 _))⟩
        | true => exact absurd h (by simp [hex4, a1, a2, a3, a4])
theorem hexV_range (h : hex4 s i = true) : 0 ≤ hexV s i ∧ hexV s i ≤ 65535 := by
  simp only [hex4, Bool.and_eq_true] at h
  obtain ⟨⟨⟨a1, a2⟩, a3⟩, a4⟩ := h
  have r1 := hv_range a1
  have r2 := hv_range a2
  have r3 := hv_range a3
  have r4 := hv_range a4
  unfold hexV
  omega
theorem hex4_lt (h : hex4 s i = true) : i + 4 ≤ (s.size : Int) := by
  simp only [hex4, Bool.and_eq_true] at h
  have := hx_lt h.2
  omega
def runeL (n : Int) : List Int :=
  if n < 128 then [n % 256] else if n < 2048 then [(192 + n / 64) % 256, (128 + n % 64) % 256]
  else if n < 65536 then [(224 + n / 4096) % 256, (128 + n / 64 % 64) % 256, (128 + n % 64) % 256]
  else [(240 + n / 262144) % 256, (128 + n / 4096 % 64) % 256, (128 + n / 64 % 64) % 256, (128 + n % 64) % 256]
theorem runeL_length (n : Int) : (runeL n).length ≤ 4 := by
  unfold runeL
  repeat' split
  all_goals simp
theorem rune_eq {n : Int} (h0 : 0 ≤ n) (h1 : n ≤ 4000000) : spec_Rune.f n = some (strOfNums (runeL n)) := by
  unfold spec_Rune.f runeL
  have b1 : n.tdiv 64 = n / 64 := Int.tdiv_eq_ediv_of_nonneg h0
  have b2 : n.tdiv 4096 = n / 4096 := Int.tdiv_eq_ediv_of_nonneg h0
  have b3 : n.tdiv 262144 = n / 262144 := Int.tdiv_eq_ediv_of_nonneg h0
  have b4 : n.tmod 64 = n % 64 := Int.tmod_eq_emod_of_nonneg h0
  have a1 : wrap64 (n / 64) = n / 64 := w64 (by omega)
  have a2 : wrap64 (n / 4096) = n / 4096 := w64 (by omega)
  have a3 : wrap64 (n / 262144) = n / 262144 := w64 (by omega)
  have b5 : (n / 64).tmod 64 = n / 64 % 64 := Int.tmod_eq_emod_of_nonneg (by omega)
  have b6 : (n / 4096).tmod 64 = n / 4096 % 64 := Int.tmod_eq_emod_of_nonneg (by omega)
  have a4 : wrap64 (192 + n / 64) = 192 + n / 64 := w64 (by omega)
  have a5 : wrap64 (224 + n / 4096) = 224 + n / 4096 := w64 (by omega)
  have a6 : wrap64 (240 + n / 262144) = 240 + n / 262144 := w64 (by omega)
  have a7 : wrap64 (128 + n % 64) = 128 + n % 64 := w64 (by omega)
  have a8 : wrap64 (128 + n / 64 % 64) = 128 + n / 64 % 64 := w64 (by omega)
  have a9 : wrap64 (128 + n / 4096 % 64) = 128 + n / 4096 % 64 := w64 (by omega)
  simp only [b1, b2, b3, b4, a1, a2, a3, b5, b6, a4, a5, a6, a7, a8, a9]
  repeat' split
  all_goals rfl
def esc (c : Int) : Bool := c == 34 || c == 92 || c == 47 || c == 98 || c == 102 || c == 110 || c == 114 || c == 116
def escV (c : Int) : Int := if c = 98 then 8 else if c = 102 then 12 else if c = 110 then 10 else if c = 114 then 13 else if c = 116 then 9 else c
def escR (s : ByteArray) (i : Int) : Option (List Int × Bool × Int) :=
  if bt s i = 117 then
    if hex4 s (i + 1) = true then
      if hexV s (i + 1) < 55296 ∨ hexV s (i + 1) > 57343 then some (runeL (hexV s (i + 1)), true, i + 5)
      else if hexV s (i + 1) ≥ 56320 ∨ i + 6 ≥ (s.size : Int) ∨ bt s (i + 5) ≠ 92 ∨ bt s (i + 6) ≠ 117 then some ([], false, i + 5)
      else if hex4 s (i + 7) = true then
        if hexV s (i + 7) < 56320 ∨ hexV s (i + 7) > 57343 then some ([], false, i + 11)
        else some (runeL (65536 + (hexV s (i + 1) - 55296) * 1024 + hexV s (i + 7) - 56320), true, i + 11)
      else none
    else none
  else if esc (bt s i) = true then some ([escV (bt s i)], true, i + 1) else none
theorem escape_l0 (b : Bool) (c : Int) {k : Nat} (hk : 9 ≤ k) (h0 : 0 ≤ i) (h1 : i ≤ 4000000000) :
    spec_reading_escape.l0 k c ([34, 92, 47, 98, 102, 110, 114, 116] : List Int) 8 0 s i b = if esc c = true then some (strOfNums [escV c], true, s, i + 1, b) else some (⟨#[]⟩, false, s, i, true) := by
  obtain ⟨k, rfl⟩ : ∃ k', k = k' + 9 := ⟨k - 9, by omega⟩
  have w1 : wrap64 (0 + 1) = 1 := by unfold wrap64; omega
  have w2 : wrap64 (1 + 1) = 2 := by unfold wrap64; omega
  have w3 : wrap64 (2 + 1) = 3 := by unfold wrap64; omega
  have w4 : wrap64 (3 + 1) = 4 := by unfold wrap64; omega
  have w5 : wrap64 (4 + 1) = 5 := by unfold wrap64; omega
  have w6 : wrap64 (5 + 1) = 6 := by unfold wrap64; omega
  have w7 : wrap64 (6 + 1) = 7 := by unfold wrap64; omega
  have w8 : wrap64 (7 + 1) = 8 := by unfold wrap64; omega
  have e1 : wrap64 (i + 1) = i + 1 := w64 (by omega)
  by_cases c1 : c = 34
  · subst c1; rw [spec_reading_escape.l0]; simp only [rd, w1, e1]; rfl
  by_cases c2 : c = 92
  · subst c2; rw [spec_reading_escape.l0, spec_reading_escape.l0]; simp only [rd, w1, w2, e1]; rfl
  by_cases c3 : c = 47
  · subst c3; rw [spec_reading_escape.l0, spec_reading_escape.l0, spec_reading_escape.l0]; simp only [rd, w1, w2, w3, e1]; rfl
  by_cases c4 : c = 98
  · subst c4; rw [spec_reading_escape.l0, spec_reading_escape.l0, spec_reading_escape.l0, spec_reading_escape.l0]; simp only [rd, w1, w2, w3, w4, e1]; rfl
  by_cases c5 : c = 102
  · subst c5; rw [spec_reading_escape.l0, spec_reading_escape.l0, spec_reading_escape.l0, spec_reading_escape.l0, spec_reading_escape.l0]; simp only [rd, w1, w2, w3, w4, w5, e1]; rfl
  by_cases c6 : c = 110
  · subst c6; rw [spec_reading_escape.l0, spec_reading_escape.l0, spec_reading_escape.l0, spec_reading_escape.l0, spec_reading_escape.l0, spec_reading_escape.l0]; simp only [rd, w1, w2, w3, w4, w5, w6, e1]; rfl
  by_cases c7 : c = 114
  · subst c7; rw [spec_reading_escape.l0, spec_reading_escape.l0, spec_reading_escape.l0, spec_reading_escape.l0, spec_reading_escape.l0, spec_reading_escape.l0, spec_reading_escape.l0]; simp only [rd, w1, w2, w3, w4, w5, w6, w7, e1]; rfl
  by_cases c8 : c = 116
  · subst c8; rw [spec_reading_escape.l0, spec_reading_escape.l0, spec_reading_escape.l0, spec_reading_escape.l0, spec_reading_escape.l0, spec_reading_escape.l0, spec_reading_escape.l0, spec_reading_escape.l0]; simp only [rd, w1, w2, w3, w4, w5, w6, w7, w8, e1]; rfl
  have he : esc c = false := by simp [esc, c1, c2, c3, c4, c5, c6, c7, c8]
  rw [he, spec_reading_escape.l0, spec_reading_escape.l0, spec_reading_escape.l0, spec_reading_escape.l0, spec_reading_escape.l0, spec_reading_escape.l0, spec_reading_escape.l0, spec_reading_escape.l0, spec_reading_escape.l0]
  simp only [rd, w1, w2, w3, w4, w5, w6, w7, w8]
  simp [c1, c2, c3, c4, c5, c6, c7, c8]
theorem escR_le {l : List Int} {p : Bool} {j : Int} (h : escR s i = some (l, p, j)) : i + 1 ≤ j ∧ j ≤ (s.size : Int) ∧ l.length ≤ 4 := by
  unfold escR at h
  by_cases c1 : bt s i = 117
  · rw [if_pos c1] at h
    by_cases c2 : hex4 s (i + 1) = true
    · have l2 := hex4_lt c2
      rw [if_pos c2] at h
      by_cases c3 : hexV s (i + 1) < 55296 ∨ hexV s (i + 1) > 57343
      · rw [if_pos c3] at h
        simp only [Option.some.injEq, Prod.mk.injEq] at h
        obtain ⟨rfl, rfl, rfl⟩ := h
        exact ⟨by omega, by omega, runeL_length _⟩
      · rw [if_neg c3] at h
        by_cases c4 : hexV s (i + 1) ≥ 56320 ∨ i + 6 ≥ (s.size : Int) ∨ bt s (i + 5) ≠ 92 ∨ bt s (i + 6) ≠ 117
        · rw [if_pos c4] at h
          simp only [Option.some.injEq, Prod.mk.injEq] at h
          obtain ⟨rfl, rfl, rfl⟩ := h
          exact ⟨by omega, by omega, by simp⟩
        · rw [if_neg c4] at h
          by_cases c5 : hex4 s (i + 7) = true
          · have l3 := hex4_lt c5
            rw [if_pos c5] at h
            split at h
            · simp only [Option.some.injEq, Prod.mk.injEq] at h
              obtain ⟨rfl, rfl, rfl⟩ := h
              exact ⟨by omega, by omega, by simp⟩
            · simp only [Option.some.injEq, Prod.mk.injEq] at h
              obtain ⟨rfl, rfl, rfl⟩ := h
              exact ⟨by omega, by omega, runeL_length _⟩
          · rw [if_neg c5] at h
            exact absurd h (by simp)
    · rw [if_neg c2] at h
      exact absurd h (by simp)
  · rw [if_neg c1] at h
    by_cases c2 : esc (bt s i) = true
    · have hlt := lt_of_bt (s := s) (i := i) (by intro e; rw [e] at c2; exact absurd c2 (by decide))
      rw [if_pos c2] at h
      simp only [Option.some.injEq, Prod.mk.injEq] at h
      obtain ⟨rfl, rfl, rfl⟩ := h
      exact ⟨by omega, by omega, by simp⟩
    · rw [if_neg c2] at h
      exact absurd h (by simp)
def EscPost (s : ByteArray) (i : Int) (o : Option (List Int × Bool × Int)) (r : Option (ByteArray × Bool × ByteArray × Int × Bool)) : Prop :=
  match o with
  | some (l, p, j) => r = some (strOfNums l, p, s, j, false)
  | none => ∃ t p j, r = some (t, p, s, j, true) ∧ t.size ≤ 4 ∧ i ≤ j ∧ j ≤ (s.size : Int)
theorem escape_eq (hs : (s.size : Int) ≤ 2147483647) (h0 : 0 ≤ i) (hi : i ≤ (s.size : Int)) {k : Nat} (hk : 20 ≤ k) : EscPost s i (escR s i) (spec_reading_escape.f k s i false) := by
  obtain ⟨k, rfl⟩ : ∃ k', k = k' + 20 := ⟨k - 20, by omega⟩
  unfold spec_reading_escape.f escR
  rw [next_eq h0]
  simp only [Option.bind_some]
  by_cases c1 : bt s i = 117
  · have hlt := lt_of_bt (s := s) (i := i) (by omega)
    rw [if_pos c1, if_pos c1, w64 (n := i + 1) (by omega)]
    cases c2 : hex4 s (i + 1) with
    | false =>
      obtain ⟨j, j1, j2, e⟩ := hex_bad hs (i := i + 1) (by omega) (by omega) false (k := k + 20) (by omega) c2
      rw [e, if_neg (by decide)]
      simp only [Option.bind_some]
      rw [if_pos (by decide), spec_reading_escape.j1, if_pos rfl, rune_eq (by omega) (by omega)]
      exact ⟨_, _, _, rfl, by rw [strOfNums_size]; exact runeL_length _, by omega, j2⟩
    | true =>
      have hr := hexV_range c2
      have l2 := hex4_lt c2
      have hR := rune_eq (n := hexV s (i + 1)) (by omega) (by omega)
      rw [hex_good hs (by omega) false (by omega) c2, if_pos rfl, show i + 1 + 4 = i + 5 by omega]
      simp only [Option.bind_some]
      by_cases c3 : hexV s (i + 1) < 55296
      · rw [if_pos c3, if_pos (.inl c3), spec_reading_escape.j1, if_pos rfl, hR]
        rfl
      · rw [if_neg c3]
        by_cases c4 : hexV s (i + 1) > 57343
        · rw [if_pos c4, if_pos (.inr c4), spec_reading_escape.j1, if_pos rfl, hR]
          rfl
        · rw [if_neg c4, if_neg (show ¬ (hexV s (i + 1) < 55296 ∨ hexV s (i + 1) > 57343) by omega), spec_reading_escape.j1, if_neg (show ¬ (false = true) by decide), w64 (n := i + 5 + 1) (by omega), show i + 5 + 1 = i + 6 by omega]
          by_cases c5 : hexV s (i + 1) ≥ 56320
          · rw [if_pos c5, if_pos (.inl c5), spec_reading_escape.j2, if_pos rfl]
            rfl
          · rw [if_neg c5]
            by_cases c6 : i + 6 ≥ (s.size : Int)
            · rw [if_pos c6, if_pos (.inr (.inl c6)), spec_reading_escape.j2, if_pos rfl]
              rfl
            · rw [if_neg c6, if_pos (show (0 : Int) ≤ i + 5 by omega), if_pos (show i + 5 < (s.size : Int) by omega)]
              by_cases c7 : bt s (i + 5) = 92
              · rw [if_pos c7, if_pos (show (0 : Int) ≤ i + 6 by omega), if_pos (show i + 6 < (s.size : Int) by omega)]
                by_cases c8 : bt s (i + 6) = 117
                · rw [show (bt s (i + 6) != 117) = false by rw [c8]; decide, spec_reading_escape.j2, if_neg (show ¬ (false = true) by decide), w64 (n := i + 5 + 2) (by omega), show i + 5 + 2 = i + 7 by omega]
                  rw [if_neg (by simp only [not_or]; exact ⟨c5, c6, by simp [c7], by simp [c8]⟩)]
                  cases c9 : hex4 s (i + 7) with
                  | false =>
                    obtain ⟨j, j1, j2, e⟩ := hex_bad hs (i := i + 7) (by omega) (by omega) false (k := k + 18) (by omega) c9
                    rw [e, if_neg (by decide)]
                    simp only [Option.bind_some]
                    rw [if_pos (by decide)]
                    exact ⟨_, _, _, rfl, Nat.zero_le 4, by omega, j2⟩
                  | true =>
                    have hr2 := hexV_range c9
                    rw [hex_good hs (by omega) false (by omega) c9, if_pos rfl, show i + 7 + 4 = i + 11 by omega]
                    simp only [Option.bind_some]
                    by_cases d1 : hexV s (i + 7) < 56320
                    · rw [if_pos d1, if_pos (.inl d1)]
                      rfl
                    · rw [if_neg d1]
                      by_cases d2 : hexV s (i + 7) > 57343
                      · rw [if_pos d2, if_pos (.inr d2)]
                        rfl
                      · rw [if_neg d2, if_neg (by omega), w64 (n := hexV s (i + 1) - 55296) (by omega), w64 (n := (hexV s (i + 1) - 55296) * 1024) (by omega), w64 (n := 65536 + (hexV s (i + 1) - 55296) * 1024) (by omega),
                          w64 (n := 65536 + (hexV s (i + 1) - 55296) * 1024 + hexV s (i + 7)) (by omega), w64 (n := 65536 + (hexV s (i + 1) - 55296) * 1024 + hexV s (i + 7) - 56320) (by omega), rune_eq (by omega) (by omega)]
                        rfl
                · rw [show (bt s (i + 6) != 117) = true from bne_iff_ne.mpr c8, spec_reading_escape.j2, if_pos rfl, if_pos (.inr (.inr (.inr c8)))]
                  rfl
              · rw [if_neg c7, spec_reading_escape.j2, if_pos rfl, if_pos (.inr (.inr (.inl c7)))]
                rfl
  · rw [if_neg c1, if_neg c1]
    have := escape_l0 (s := s) (i := i) false (bt s i) (k := k + 20) (by omega) h0 (by omega)
    change EscPost s i _ (spec_reading_escape.l0 (k + 20) (bt s i) ([34, 92, 47, 98, 102, 110, 114, 116] : List Int) 8 0 s i false)
    rw [this]
    cases c2 : esc (bt s i) with
    | true => rw [if_pos rfl, if_pos rfl]; rfl
    | false =>
      rw [if_neg (by decide), if_neg (by decide)]
      exact ⟨_, _, _, rfl, Nat.zero_le 4, by omega, hi⟩
def textR (s : ByteArray) : Nat → Int → Option (List Int × Bool × Int)
  | 0, _ => none
  | n + 1, i =>
    if bt s i < 32 then none
    else if bt s i = 34 then some ([], true, i + 1)
    else if bt s i = 92 then (escR s (i + 1)).bind fun e => (textR s n e.2.2).bind fun r => some (e.1 ++ r.1, e.2.1 && r.2.1, r.2.2)
    else (textR s n (i + 1)).bind fun r => some (bt s i :: r.1, r.2.1, r.2.2)
def strR (s : ByteArray) (i : Int) : Option (List Int × Bool × Int) := textR s (((s.size : Int) - i).toNat + 1) i
theorem strR_le : ∀ (n : Nat) (i : Int) {l : List Int} {p : Bool} {j : Int}, textR s n i = some (l, p, j) → i + 1 ≤ j ∧ j ≤ (s.size : Int) := by
  intro n
  induction n with
  | zero => intro i l p j h; exact absurd h (by simp [textR])
  | succ n ih =>
    intro i l p j h
    unfold textR at h
    by_cases c1 : bt s i < 32
    · rw [if_pos c1] at h; exact absurd h (by simp)
    · have hlt := lt_of_bt (s := s) (i := i) (by omega)
      rw [if_neg c1] at h
      by_cases c2 : bt s i = 34
      · rw [if_pos c2] at h
        simp only [Option.some.injEq, Prod.mk.injEq] at h
        omega
      · rw [if_neg c2] at h
        by_cases c3 : bt s i = 92
        · rw [if_pos c3] at h
          replace h := Option.bind_eq_some_iff.mp h
          obtain ⟨e, he, h⟩ := h
          replace h := Option.bind_eq_some_iff.mp h
          obtain ⟨r, hr, h⟩ := h
          have h1 := escR_le (l := e.1) (p := e.2.1) (j := e.2.2) he
          have h2 := ih e.2.2 (l := r.1) (p := r.2.1) (j := r.2.2) hr
          simp only [Option.some.injEq, Prod.mk.injEq] at h
          omega
        · rw [if_neg c3] at h
          replace h := Option.bind_eq_some_iff.mp h
          obtain ⟨r, hr, h⟩ := h
          have h2 := ih (i + 1) (l := r.1) (p := r.2.1) (j := r.2.2) hr
          simp only [Option.some.injEq, Prod.mk.injEq] at h
          omega
def TextPost (s : ByteArray) (i : Int) (x : List Int) (q : Bool) (o : Option (List Int × Bool × Int)) (r : Option (ByteArray × Bool × ByteArray × Int × Bool)) : Prop :=
  match o with
  | some (l, p, j) => r = some (strOfNums (x ++ l), q && p, s, j, false)
  | none => ∃ t p j, r = some (t, p, s, j, true) ∧ i ≤ j ∧ j ≤ (s.size : Int)
theorem strOfNums_bytes (xs : List Int) (h : ∀ x ∈ xs, 0 ≤ x ∧ x ≤ 255) : bytesOf (strOfNums xs) = xs := by
  unfold bytesOf
  rw [strOfNums_data, List.map_map]
  conv => rhs; rw [← List.map_id xs]
  refine List.map_congr_left fun x hx => ?_
  have := h x hx
  show ((UInt8.ofNat x.toNat).toNat : Int) = x
  rw [UInt8.toNat_ofNat']
  omega
theorem runeL_bytes (n : Int) : ∀ x ∈ runeL n, 0 ≤ x ∧ x ≤ 255 := by
  intro x hx
  unfold runeL at hx
  repeat' split at hx
  all_goals simp only [List.mem_cons, List.not_mem_nil, or_false] at hx
  all_goals rcases hx with h | h | h | h <;> omega
theorem escR_bytes {l : List Int} {p : Bool} {j : Int} (h : escR s i = some (l, p, j)) : ∀ x ∈ l, 0 ≤ x ∧ x ≤ 255 := by
  unfold escR at h
  repeat' split at h
  all_goals first | (simp at h; done) | skip
  all_goals simp only [Option.some.injEq, Prod.mk.injEq] at h
  all_goals obtain ⟨rfl, rfl, rfl⟩ := h
  all_goals first | exact runeL_bytes _ | (intro x hx; simp at hx; done) | skip
  intro x hx
  simp only [List.mem_singleton] at hx
  subst hx
  have := bt_range s i
  unfold escV
  repeat' split
  all_goals omega
theorem text_l0 (hs : (s.size : Int) ≤ 2147483647) : ∀ (n : Nat) (i : Int) (x : List Int) (q : Bool) (k : Nat), 0 ≤ i → i ≤ (s.size : Int) → ((s.size : Int) - i).toNat < n → (x.length : Int) ≤ 4 * i → 2 * n + 22 ≤ k →
    TextPost s i x q (textR s n i) (spec_reading_text.l0 k x q s i false) := by
  intro n
  induction n with
  | zero => intro i x q k h0 h1 hn; omega
  | succ n ih =>
    intro i x q k h0 h1 hn hx hk
    obtain ⟨k, rfl⟩ : ∃ k', k = k' + 2 := ⟨k - 2, by omega⟩
    unfold textR
    rw [spec_reading_text.l0, if_neg (show ¬ (false = true) by decide)]
    by_cases c0 : i ≥ (s.size : Int)
    · rw [if_pos c0, spec_reading_text.j1, if_pos rfl, bt_out c0, if_pos (show (0 : Int) < 32 by decide)]
      exact ⟨_, _, _, rfl, by omega, by omega⟩
    · rw [if_neg c0, if_pos h0, if_pos (show i < (s.size : Int) by omega), spec_reading_text.j1]
      by_cases c1 : bt s i < 32
      · rw [if_pos c1, if_pos (show decide (bt s i < 32) = true from decide_eq_true c1)]
        exact ⟨_, _, _, rfl, by omega, by omega⟩
      · rw [if_neg c1, if_neg (show ¬ (decide (bt s i < 32) = true) by simpa using c1), if_pos h0, if_pos (show i < (s.size : Int) by omega), w64 (n := i + 1) (by omega)]
        by_cases c2 : bt s i = 34
        · rw [if_pos c2, if_pos c2]
          show _ = some (strOfNums (x ++ []), q && true, s, i + 1, false)
          rw [List.append_nil, Bool.and_true]
        · rw [if_neg c2, if_neg c2]
          by_cases c3 : bt s i = 92
          · rw [if_pos c3, if_pos c3]
            have he := escape_eq (s := s) (i := i + 1) hs (by omega) (by omega) (k := k) (by omega)
            revert he
            cases hE : escR s (i + 1) with
            | none =>
              rintro ⟨t, p, j, e, h4, j1, j2⟩
              rw [e]
              simp only [Option.bind_some, Option.bind_none]
              rw [if_pos (show x.length + t.size < 140737488355328 by omega)]
              obtain ⟨k, rfl⟩ : ∃ k', k = k' + 1 := ⟨k - 1, by omega⟩
              cases q with
              | true =>
                rw [if_pos rfl, spec_reading_text.l0, if_pos rfl]
                exact ⟨_, _, _, rfl, by omega, by omega⟩
              | false =>
                rw [if_neg (by decide), spec_reading_text.l0, if_pos rfl]
                exact ⟨_, _, _, rfl, by omega, by omega⟩
            | some e =>
              obtain ⟨l, p, j⟩ := e
              have hl := escR_le hE
              intro e
              replace e : _ = some (strOfNums l, p, s, j, false) := e
              rw [e]
              simp only [Option.bind_some]
              rw [if_pos (show x.length + (strOfNums l).size < 140737488355328 by rw [strOfNums_size]; omega), strOfNums_bytes l (escR_bytes hE)]
              have hi := ih j (x ++ l) (q && p) k (by omega) (by omega) (by omega) (by rw [List.length_append]; omega) (by omega)
              have e2 : (if q = true then spec_reading_text.l0 k (x ++ l) p s j false else spec_reading_text.l0 k (x ++ l) false s j false) = spec_reading_text.l0 k (x ++ l) (q && p) s j false := by cases q <;> rfl
              rw [e2]
              revert hi
              cases textR s n j with
              | none =>
                rintro ⟨t, p', j', e, j1, j2⟩
                exact ⟨t, p', j', e, by omega, j2⟩
              | some r =>
                obtain ⟨l', p', j'⟩ := r
                intro e
                replace e : _ = some (strOfNums (x ++ l ++ l'), q && p && p', s, j', false) := e
                show _ = some (strOfNums (x ++ (l ++ l')), q && (p && p'), s, j', false)
                rw [e, List.append_assoc, Bool.and_assoc]
          · rw [if_neg c3, if_neg c3, if_pos (show x.length < 140737488355328 by omega)]
            have hi := ih (i + 1) (x ++ [bt s i]) q k (by omega) (by omega) (by omega) (by rw [List.length_append]; simp; omega) (by omega)
            revert hi
            cases textR s n (i + 1) with
            | none =>
              rintro ⟨t, p', j', e, j1, j2⟩
              exact ⟨t, p', j', e, by omega, j2⟩
            | some r =>
              obtain ⟨l', p', j'⟩ := r
              intro e
              replace e : _ = some (strOfNums (x ++ [bt s i] ++ l'), q && p', s, j', false) := e
              show _ = some (strOfNums (x ++ (bt s i :: l')), q && p', s, j', false)
              rw [e, List.append_assoc]
              rfl
theorem text_good (hs : (s.size : Int) ≤ 2147483647) (h0 : 0 ≤ i) (h1 : i ≤ (s.size : Int)) {k : Nat} (hk : 2 * ((s.size : Int) - i).toNat + 30 ≤ k) (hq : bt s i = 34) :
    TextPost s (i + 1) [] true (strR s (i + 1)) (spec_reading_text.f k s i false) := by
  have hlt := lt_of_bt (s := s) (i := i) (by omega)
  unfold spec_reading_text.f
  rw [take_eq h0 hs _ _ (by decide), if_pos hq]
  exact text_l0 hs _ (i + 1) [] true k (by omega) (by omega) (by omega) (by simp; omega) (by omega)
theorem text_none (hs : (s.size : Int) ≤ 2147483647) (h0 : 0 ≤ i) {k : Nat} (hk : 1 ≤ k) (hq : bt s i ≠ 34) : spec_reading_text.f k s i false = some (⟨#[]⟩, true, s, i, true) := by
  obtain ⟨k, rfl⟩ : ∃ k', k = k' + 1 := ⟨k - 1, by omega⟩
  unfold spec_reading_text.f
  rw [take_eq h0 hs _ _ (by decide), if_neg hq]
  simp only [Option.bind_some]
  rw [spec_reading_text.l0, if_pos rfl]
  rfl
theorem text_any (hs : (s.size : Int) ≤ 2147483647) (h0 : 0 ≤ i) (h1 : i ≤ (s.size : Int)) (b : Bool) {k : Nat} (hk : 2 * ((s.size : Int) - i).toNat + 30 ≤ k) :
    ∃ t p j b', spec_reading_text.f k s i b = some (t, p, s, j, b') ∧ i ≤ j ∧ j ≤ (s.size : Int) ∧ (b = true → b' = true) := by
  cases b with
  | false =>
    by_cases hq : bt s i = 34
    · have h := text_good hs h0 h1 hk hq
      revert h
      cases hR : strR s (i + 1) with
      | none =>
        rintro ⟨t, p, j, e, j1, j2⟩
        exact ⟨t, p, j, true, e, by omega, j2, fun h => absurd h (by decide)⟩
      | some r =>
        obtain ⟨l, p, j⟩ := r
        have := strR_le _ _ hR
        intro e
        exact ⟨_, _, j, false, e, by omega, by omega, fun h => absurd h (by decide)⟩
    · exact ⟨_, _, _, _, text_none hs h0 (by omega) hq, by omega, by omega, fun h => absurd h (by decide)⟩
  | true =>
    obtain ⟨k, rfl⟩ : ∃ k', k = k' + 1 := ⟨k - 1, by omega⟩
    unfold spec_reading_text.f
    rw [take_eq h0 hs _ _ (by decide)]
    by_cases hq : bt s i = 34
    · have hlt := lt_of_bt (s := s) (i := i) (by omega)
      rw [if_pos hq]
      simp only [Option.bind_some]
      rw [spec_reading_text.l0, if_pos rfl]
      exact ⟨_, _, _, _, rfl, by omega, by omega, fun _ => rfl⟩
    · rw [if_neg hq]
      simp only [Option.bind_some]
      rw [spec_reading_text.l0, if_pos rfl]
      exact ⟨_, _, _, _, rfl, by omega, by omega, fun _ => rfl⟩
theorem word_l0 (hs : (s.size : Int) ≤ 2147483647) (x : ByteArray) (hx : (x.size : Int) ≤ 100) (hw : ∀ q : Int, 0 ≤ q → q < (x.size : Int) → bt x q ≠ 0) : ∀ (n : Nat) (p i : Int) (b : Bool) (k : Nat), 0 ≤ p → p + n = (x.size : Int) → 0 ≤ i → i ≤ (s.size : Int) → n + 1 ≤ k →
    ∃ j b', spec_reading_word.l0 k x p s i b = some (s, j, b') ∧ i ≤ j ∧ j ≤ (s.size : Int) ∧ (b = true → b' = true ∨ n = 0) ∧ (b' = false → j = i + n ∧ ∀ q : Int, p ≤ q → q < (x.size : Int) → bt s (i + (q - p)) = bt x q) ∧
      (b = false → (∀ q : Int, p ≤ q → q < (x.size : Int) → bt s (i + (q - p)) = bt x q) → b' = false) ∧ (b = true → b' = true) := by
  intro n
  induction n with
  | zero =>
    intro p i b k hp he h0 h1 hk
    obtain ⟨k, rfl⟩ : ∃ k', k = k' + 1 := ⟨k - 1, by omega⟩
    rw [spec_reading_word.l0, if_neg (by omega)]
    exact ⟨i, b, rfl, by omega, h1, fun _ => .inr rfl, fun _ => ⟨by omega, fun q h2 h3 => by omega⟩, fun h _ => h, fun h => h⟩
  | succ n ih =>
    intro p i b k hp he h0 h1 hk
    obtain ⟨k, rfl⟩ : ∃ k', k = k' + 1 := ⟨k - 1, by omega⟩
    rw [spec_reading_word.l0, if_pos (by omega)]
    cases b with
    | true => exact ⟨i, true, rfl, by omega, h1, fun _ => .inl rfl, fun h => absurd h (by decide), fun h => absurd h (by decide), fun h => h⟩
    | false =>
      rw [if_neg (by decide), if_pos hp, take_eq h0 hs _ _ (hw p hp (by omega)), w64 (n := p + 1) (by omega)]
      by_cases hq : bt s i = bt x p
      · have hlt := lt_of_bt (s := s) (i := i) (by rw [hq]; exact hw p hp (by omega))
        rw [if_pos hq]
        simp only [Option.bind_some]
        obtain ⟨j, b', e, j1, j2, _, j3, j4, _⟩ := ih (p + 1) (i + 1) false k (by omega) (by omega) (by omega) (by omega) (by omega)
        refine ⟨j, b', e, by omega, j2, fun h => absurd h (by decide), fun h => ⟨by have := (j3 h).1; omega, fun q h2 h3 => ?_⟩, fun _ h => j4 rfl fun q h2 h3 => ?_, fun h => absurd h (by decide)⟩
        · by_cases h4 : q = p
          · rw [h4, show i + (p - p) = i by omega]; exact hq
          · have := (j3 h).2 q (by omega) h3
            rw [show i + (q - p) = i + 1 + (q - (p + 1)) by omega]
            exact this
        · have := h q (by omega) h3
          rw [show i + 1 + (q - (p + 1)) = i + (q - p) by omega]
          exact this
      · rw [if_neg hq]
        simp only [Option.bind_some]
        obtain ⟨k, rfl⟩ : ∃ k', k = k' + 1 := ⟨k - 1, by omega⟩
        have e : spec_reading_word.l0 (k + 1) x (p + 1) s i true = some (s, i, true) := by
          rw [spec_reading_word.l0]
          by_cases h2 : p + 1 < (x.size : Int)
          · rw [if_pos h2, if_pos rfl]
          · rw [if_neg h2]
        refine ⟨i, true, e, by omega, h1, fun h => absurd h (by decide), fun h => absurd h (by decide), fun _ h => absurd ?_ hq, fun h => absurd h (by decide)⟩
        have := h p (by omega) (by omega)
        rw [show i + (p - p) = i by omega] at this
        exact this
def wordAt (s : ByteArray) (i : Int) (x : ByteArray) : Prop := ∀ q : Int, 0 ≤ q → q < (x.size : Int) → bt s (i + q) = bt x q
theorem word_eq (hs : (s.size : Int) ≤ 2147483647) (x : ByteArray) (hx : (x.size : Int) ≤ 100) (hw : ∀ q : Int, 0 ≤ q → q < (x.size : Int) → bt x q ≠ 0) (h0 : 0 ≤ i) (h1 : i ≤ (s.size : Int)) (b : Bool) {k : Nat} (hk : 101 ≤ k) :
    ∃ j b', spec_reading_word.f k s i b x = some (s, j, b') ∧ i ≤ j ∧ j ≤ (s.size : Int) ∧ (b' = false → j = i + x.size ∧ wordAt s i x) ∧ (b = false → wordAt s i x → b' = false) ∧ (b = true → b' = true) := by
  obtain ⟨j, b', e, j1, j2, _, j3, j4, j5⟩ := word_l0 hs x hx hw x.size 0 i b k (by omega) (by omega) h0 h1 (by omega)
  refine ⟨j, b', e, j1, j2, fun h => ⟨(j3 h).1, fun q h2 h3 => ?_⟩, fun h h2 => j4 h fun q h3 h4 => ?_, j5⟩
  · have := (j3 h).2 q h2 h3
    rw [show i + (q - 0) = i + q by omega] at this
    exact this
  · rw [show i + (q - 0) = i + q by omega]
    exact h2 q h3 h4
end
end Go.Proofs.YtldfejbmdonaoaaDoor.Te