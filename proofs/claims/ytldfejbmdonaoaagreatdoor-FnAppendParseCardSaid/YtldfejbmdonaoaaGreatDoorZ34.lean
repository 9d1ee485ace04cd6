/- Joined by a program of mine from texts of this claim: Vp. -/
import Derived.Test.YtldfejbmdonaoaaGreatDoorZ17
import Derived.Test.YtldfejbmdonaoaaGreatDoorZ27
import Derived.Test.YtldfejbmdonaoaaGreatDoorZ28
import Derived.Test.YtldfejbmdonaoaaGreatDoorZ29
import Derived.Test.YtldfejbmdonaoaaGreatDoorZ30
import Derived.Test.YtldfejbmdonaoaaGreatDoorZ31
import Derived.Test.YtldfejbmdonaoaaGreatDoorZ32
import Derived.Test.YtldfejbmdonaoaaGreatDoorZ33
namespace Go.Proofs.YtldfejbmdonaoaaGreatDoor.Vp
open Go.RowKit YtldfejbmdonaoaaGreatDoorW.PrintWords YtldfejbmdonaoaaGreatDoorW.PrintLast YtldfejbmdonaoaaGreatDoorW.PrintMore Tw Tf Tp Te Tg Ti Sp Vs
set_option linter.unusedVariables false
set_option linter.unusedSimpArgs false
set_option linter.unusedSectionVars false
theorem ishex_eq (c : Int) : gjson_ishex.f c = some (hx c) := by
  unfold gjson_ishex.f hx
  by_cases a1 : 48 ≤ c <;> by_cases a2 : c ≤ 57 <;> by_cases a3 : 97 ≤ c <;> by_cases a4 : c ≤ 102 <;> by_cases a5 : 65 ≤ c <;> by_cases a6 : c ≤ 70 <;> simp [a1, a2, a3, a4, a5, a6] <;> omega
section
variable {s : ByteArray} (hs : (s.size : Int) ≤ 2147483647) {i : Int} (h0 : 0 ≤ i)
include hs h0
def V0 (s : ByteArray) (i : Int) (r : Int × Bool) : Prop := ∃ k, gjson_validstring.l0 k (bytesOf s) i = some r
omit hs h0 in
theorem len_eq (s : ByteArray) : ((bytesOf s).length : Int) = (s.size : Int) := by rw [bytesOf_length]
omit hs in
theorem v_ctl (h1 : i ≤ (s.size : Int)) (hc : bt s i < 32) : V0 s i (i, false) := by
  refine ⟨1, ?_⟩
  rw [gjson_validstring.l0, len_eq, rd_bytesOf]
  by_cases c : i < (s.size : Int)
  · rw [if_pos c, if_pos h0, if_pos hc]
  · rw [if_neg c]
theorem v_quote (hc : bt s i = 34) : V0 s i (i + 1, true) := by
  have hlt := lt_of_bt (s := s) (i := i) (by omega)
  refine ⟨1, ?_⟩
  rw [gjson_validstring.l0, len_eq, rd_bytesOf, if_pos hlt, if_pos h0, if_neg (by omega), if_neg (by omega), if_pos hc, w64 (n := i + 1) (by omega)]
theorem v_plain {r : Int × Bool} (hc : ¬ bt s i < 32) (hc2 : bt s i ≠ 34) (hc3 : bt s i ≠ 92) (h : V0 s (i + 1) r) : V0 s i r := by
  obtain ⟨k, h⟩ := h
  have hlt := lt_of_bt (s := s) (i := i) (by omega)
  refine ⟨k + 1, ?_⟩
  rw [gjson_validstring.l0, len_eq, rd_bytesOf, if_pos hlt, if_pos h0, if_neg hc, if_neg hc3, if_neg hc2, w64 (n := i + 1) (by omega)]
  exact h
theorem v_back (k : Nat) (hc : bt s i = 92) (h1 : i + 1 < (s.size : Int)) : gjson_validstring.l0 (k + 1) (bytesOf s) i = gjson_validstring.j1 k (bytesOf s) (i + 1) (bt s (i + 1)) (esc (bt s (i + 1))) := by
  rw [gjson_validstring.l0, len_eq, rd_bytesOf, if_pos (by omega), if_pos h0, if_neg (by omega), if_pos hc, w64 (n := i + 1) (by omega), if_neg (by omega), if_pos (by omega), if_pos h1, rd_bytesOf]
  generalize bt s (i + 1) = c
  by_cases c1 : c = 34
  · subst c1; rfl
  by_cases c2 : c = 92
  · subst c2; rfl
  by_cases c3 : c = 47
  · subst c3; rfl
  by_cases c4 : c = 98
  · subst c4; rfl
  by_cases c5 : c = 102
  · subst c5; rfl
  by_cases c6 : c = 110
  · subst c6; rfl
  by_cases c7 : c = 114
  · subst c7; rfl
  rw [if_neg c1, if_neg c2, if_neg c3, if_neg c4, if_neg c5, if_neg c6, if_neg c7]
  have : esc c = (c == 116) := by simp [esc, c1, c2, c3, c4, c5, c6, c7]
  rw [this]
theorem v_esc {r : Int × Bool} (hc : bt s i = 92) (he : esc (bt s (i + 1)) = true) (h : V0 s (i + 2) r) : V0 s i r := by
  obtain ⟨k, h⟩ := h
  have hlt := lt_of_bt (s := s) (i := i + 1) (by intro e; rw [e] at he; exact absurd he (by decide))
  refine ⟨k + 2, ?_⟩
  rw [v_back hs h0 _ hc hlt, gjson_validstring.j1, if_pos he, w64 (n := i + 1 + 1) (by omega), show i + 1 + 1 = i + 2 by omega]
  exact h
omit h0 in
theorem v_hex {r : Int × Bool} : ∀ (m : Nat) (x : Int), m ≤ 4 → 0 ≤ x → x ≤ 4000000000 → (∀ p, x < p → p ≤ x + m → hx (bt s p) = true) → V0 s (x + m + 1) r → ∃ k, gjson_validstring.l1 k (bytesOf s) x (4 - m) = some r := by
  intro m
  induction m with
  | zero =>
    rintro x _ hx0 hb _ ⟨k, h⟩
    refine ⟨k + 1, ?_⟩
    rw [gjson_validstring.l1, if_neg (by omega), w64 (n := x + 1) (by omega)]
    simpa using h
  | succ m ih =>
    intro x hm hx0 hb hh h
    have h1 := hh (x + 1) (by omega) (by omega)
    have hlt := hx_lt h1
    obtain ⟨k, hk⟩ := ih (x + 1) (by omega) (by omega) (by omega) (fun p h2 h3 => hh p (by omega) (by omega)) (by rw [show x + 1 + (m : Int) + 1 = x + ((m + 1 : Nat) : Int) + 1 by omega]; exact h)
    refine ⟨k + 1, ?_⟩
    rw [gjson_validstring.l1, len_eq, if_pos (by omega), w64 (n := x + 1) (by omega), if_neg (by omega), if_pos (by omega), if_pos hlt, rd_bytesOf, ishex_eq]
    simp only [Option.bind_some]
    rw [if_pos h1, w64 (n := 4 - ((m + 1 : Nat) : Int) + 1) (by omega), show 4 - ((m + 1 : Nat) : Int) + 1 = 4 - (m : Int) by omega]
    exact hk
omit h0 in
theorem v_nohex : ∀ (m : Nat) (x : Int), m ≤ 4 → 0 ≤ x → x < (s.size : Int) → (∃ p, x < p ∧ p ≤ x + m ∧ hx (bt s p) = false) → ∃ r1 k, gjson_validstring.l1 k (bytesOf s) x (4 - m) = some (r1, false) := by
  intro m
  induction m with
  | zero =>
    rintro x _ hx0 _ ⟨p, h1, h2, _⟩
    omega
  | succ m ih =>
    rintro x hm hx0 hx1 ⟨p, h1, h2, h3⟩
    by_cases c : x + 1 ≥ (s.size : Int)
    · refine ⟨x + 1, 1, ?_⟩
      rw [gjson_validstring.l1, len_eq, if_pos (by omega), w64 (n := x + 1) (by omega), if_pos c]
    · cases c2 : hx (bt s (x + 1)) with
      | false =>
        refine ⟨x + 1, 1, ?_⟩
        rw [gjson_validstring.l1, len_eq, if_pos (by omega), w64 (n := x + 1) (by omega), if_neg c, if_pos (by omega), if_pos (by omega), rd_bytesOf, ishex_eq, c2]
        rfl
      | true =>
        obtain ⟨r1, k, hk⟩ := ih (x + 1) (by omega) (by omega) (by omega) ⟨p, by
          by_cases h4 : p = x + 1
          · rw [h4, c2] at h3; exact absurd h3 (by decide)
          · omega, by omega, h3⟩
        refine ⟨r1, k + 1, ?_⟩
        rw [gjson_validstring.l1, len_eq, if_pos (by omega), w64 (n := x + 1) (by omega), if_neg c, if_pos (by omega), if_pos (by omega), rd_bytesOf, ishex_eq, c2]
        simp only [Option.bind_some]
        rw [if_pos trivial, w64 (n := 4 - ((m + 1 : Nat) : Int) + 1) (by omega), show 4 - ((m + 1 : Nat) : Int) + 1 = 4 - (m : Int) by omega]
        exact hk
theorem v_u {r : Int × Bool} (hc : bt s i = 92) (hu : bt s (i + 1) = 117) (hh : hex4 s (i + 2) = true) (h : V0 s (i + 6) r) : V0 s i r := by
  have hlt := lt_of_bt (s := s) (i := i + 1) (by omega)
  simp only [hex4, Bool.and_eq_true] at hh
  obtain ⟨⟨⟨a1, a2⟩, a3⟩, a4⟩ := hh
  obtain ⟨k, hk⟩ := v_hex hs (r := r) 4 (i + 1) (by omega) (by omega) (by omega) (fun p h1 h2 => by
    have : p = i + 2 ∨ p = i + 2 + 1 ∨ p = i + 2 + 2 ∨ p = i + 2 + 3 := by omega
    rcases this with rfl | rfl | rfl | rfl <;> assumption) (by rw [show i + 1 + ((4 : Nat) : Int) + 1 = i + 6 by omega]; exact h)
  refine ⟨k + 2, ?_⟩
  rw [v_back hs h0 _ hc hlt, hu, gjson_validstring.j1, if_neg (by decide), if_pos rfl]
  exact hk
theorem v_bad (hc : bt s i = 92) (he : esc (bt s (i + 1)) = false) (hu : bt s (i + 1) = 117 → hex4 s (i + 2) = false) : ∃ r1, V0 s i (r1, false) := by
  have hlt := lt_of_bt (s := s) (i := i) (by omega)
  by_cases c : i + 1 < (s.size : Int)
  · by_cases c2 : bt s (i + 1) = 117
    · have hh := hu c2
      obtain ⟨r1, k, hk⟩ := v_nohex hs 4 (i + 1) (by omega) (by omega) c (by
        refine Classical.byContradiction fun hn => ?_
        have hall : ∀ p, i + 1 < p → p ≤ i + 5 → hx (bt s p) = true := fun p h1 h2 => by
          cases h3 : hx (bt s p) with
          | true => rfl
          | false => exact absurd ⟨p, h1, by omega, h3⟩ hn
        have : hex4 s (i + 2) = true := by
          simp only [hex4, Bool.and_eq_true]
          exact ⟨⟨⟨hall _ (by omega) (by omega), hall _ (by omega) (by omega)⟩, hall _ (by omega) (by omega)⟩, hall _ (by omega) (by omega)⟩
        rw [this] at hh
        exact absurd hh (by decide))
      refine ⟨r1, k + 2, ?_⟩
      rw [v_back hs h0 _ hc c, c2, gjson_validstring.j1, if_neg (by decide), if_pos rfl]
      exact hk
    · refine ⟨i + 1, 2, ?_⟩
      rw [v_back hs h0 _ hc c, he, gjson_validstring.j1, if_neg (by decide), if_neg c2]
  · refine ⟨i + 1, 1, ?_⟩
    rw [gjson_validstring.l0, len_eq, rd_bytesOf, if_pos hlt, if_pos h0, if_neg (by omega), if_pos hc, w64 (n := i + 1) (by omega), if_pos (by omega)]
omit h0 in
theorem string_is : ∀ (n : Nat) (i : Int), 0 ≤ i → i ≤ (s.size : Int) → ((s.size : Int) - i).toNat < n → ∃ r1 ok, V0 s i (r1, ok) ∧ (match textR s n i with | some (_, _, j) => ok = true ∧ r1 = j | none => ok = false) := by
  intro n
  induction n with
  | zero => intro i h0 h1 hn; omega
  | succ n ih =>
    intro i h0 h1 hn
    unfold textR
    by_cases c1 : bt s i < 32
    · rw [if_pos c1]
      exact ⟨_, _, v_ctl h0 h1 c1, rfl⟩
    have hlt := lt_of_bt (s := s) (i := i) (by omega)
    rw [if_neg c1]
    by_cases c2 : bt s i = 34
    · rw [if_pos c2]
      exact ⟨_, _, v_quote hs h0 c2, rfl, rfl⟩
    rw [if_neg c2]
    by_cases c3 : bt s i = 92
    · rw [if_pos c3]
      have goes : ∀ l p j, escR s (i + 1) = some (l, p, j) → (∀ r, V0 s j r → V0 s i r) → ∃ r1 ok, V0 s i (r1, ok) ∧ (match ((escR s (i + 1)).bind fun e => (textR s n e.2.2).bind fun r => some (e.1 ++ r.1, e.2.1 && r.2.1, r.2.2)) with | some (_, _, j) => ok = true ∧ r1 = j | none => ok = false) := by
        intro l p j he up
        have hl := escR_le he
        obtain ⟨r1, ok, hV, hm⟩ := ih j (by omega) (by omega) (by omega)
        refine ⟨r1, ok, up _ hV, ?_⟩
        rw [he]
        simp only [Option.bind_some]
        revert hm
        cases textR s n j with
        | none => exact fun h => h
        | some r => exact fun h => h
      have falls : escR s (i + 1) = none → (∃ r1, V0 s i (r1, false)) → ∃ r1 ok, V0 s i (r1, ok) ∧ (match ((escR s (i + 1)).bind fun e => (textR s n e.2.2).bind fun r => some (e.1 ++ r.1, e.2.1 && r.2.1, r.2.2)) with | some (_, _, j) => ok = true ∧ r1 = j | none => ok = false) := by
        rintro he ⟨r1, hV⟩
        exact ⟨r1, false, hV, by rw [he]; rfl⟩
      by_cases d1 : bt s (i + 1) = 117
      · cases d2 : hex4 s (i + 1 + 1) with
        | false =>
          refine falls (by unfold escR; rw [if_pos d1, if_neg (by rw [d2]; decide)]) (v_bad hs h0 c3 (by rw [d1]; decide) (fun _ => by rw [show i + 2 = i + 1 + 1 by omega]; exact d2))
        | true =>
          have d2' : hex4 s (i + 2) = true := by rw [show i + 2 = i + 1 + 1 by omega]; exact d2
          have one : ∀ r, V0 s (i + 6) r → V0 s i r := fun r h => v_u hs h0 c3 d1 d2' h
          by_cases d3 : hexV s (i + 1 + 1) < 55296 ∨ hexV s (i + 1 + 1) > 57343
          · refine goes (runeL (hexV s (i + 1 + 1))) true (i + 6) (by unfold escR; rw [if_pos d1, if_pos d2, if_pos d3, show i + 1 + 5 = i + 6 by omega]) one
          · by_cases d4 : hexV s (i + 1 + 1) ≥ 56320 ∨ i + 1 + 6 ≥ (s.size : Int) ∨ bt s (i + 1 + 5) ≠ 92 ∨ bt s (i + 1 + 6) ≠ 117
            · exact goes [] false (i + 6) (by unfold escR; rw [if_pos d1, if_pos d2, if_neg d3, if_pos d4, show i + 1 + 5 = i + 6 by omega]) one
            · have e1 : bt s (i + 6) = 92 := by
                rw [show i + 6 = i + 1 + 5 by omega]
                exact Decidable.byContradiction fun x => d4 (.inr (.inr (.inl x)))
              have e2 : bt s (i + 6 + 1) = 117 := by
                rw [show i + 6 + 1 = i + 1 + 6 by omega]
                exact Decidable.byContradiction fun x => d4 (.inr (.inr (.inr x)))
              cases d5 : hex4 s (i + 1 + 7) with
              | false =>
                refine falls (by unfold escR; rw [if_pos d1, if_pos d2, if_neg d3, if_neg d4, if_neg (by rw [d5]; decide)]) ?_
                obtain ⟨r1, hV⟩ := v_bad hs (i := i + 6) (by omega) e1 (by rw [e2]; decide) (fun _ => by rw [show i + 6 + 2 = i + 1 + 7 by omega]; exact d5)
                exact ⟨r1, one _ hV⟩
              | true =>
                have two : ∀ r, V0 s (i + 12) r → V0 s i r := fun r h => one r (v_u hs (i := i + 6) (by omega) e1 e2 (by rw [show i + 6 + 2 = i + 1 + 7 by omega]; exact d5) (by rw [show i + 6 + 6 = i + 12 by omega]; exact h))
                by_cases d6 : hexV s (i + 1 + 7) < 56320 ∨ hexV s (i + 1 + 7) > 57343
                · exact goes [] false (i + 12) (by unfold escR; rw [if_pos d1, if_pos d2, if_neg d3, if_neg d4, if_pos d5, if_pos d6, show i + 1 + 11 = i + 12 by omega]) two
                · exact goes (runeL (65536 + (hexV s (i + 1 + 1) - 55296) * 1024 + hexV s (i + 1 + 7) - 56320)) true (i + 12) (by unfold escR; rw [if_pos d1, if_pos d2, if_neg d3, if_neg d4, if_pos d5, if_neg d6, show i + 1 + 11 = i + 12 by omega]) two
      · cases d2 : esc (bt s (i + 1)) with
        | false => exact falls (by unfold escR; rw [if_neg d1, if_neg (by rw [d2]; decide)]) (v_bad hs h0 c3 d2 (fun h => absurd h d1))
        | true => exact goes [escV (bt s (i + 1))] true (i + 2) (by unfold escR; rw [if_neg d1, if_pos d2, show i + 1 + 1 = i + 2 by omega]) (fun r h => v_esc hs h0 c3 d2 h)
    · rw [if_neg c3]
      obtain ⟨r1, ok, hV, hm⟩ := ih (i + 1) (by omega) (by omega) (by omega)
      refine ⟨r1, ok, v_plain hs h0 c1 c2 c3 hV, ?_⟩
      revert hm
      cases textR s n (i + 1) with
      | none => exact fun h => h
      | some r => exact fun h => h
omit h0 in
theorem colon_is : ∀ (n : Nat) (i : Int), 0 ≤ i → ((s.size : Int) - i).toNat < n → ∃ k, gjson_validcolon.f k (bytesOf s) i = if bt s (runEnd ws s i) = 58 then some (runEnd ws s i + 1, true) else some (runEnd ws s i, false) := by
  intro n
  induction n with
  | zero => intro i h0 hn; omega
  | succ n ih =>
    intro i h0 hn
    unfold gjson_validcolon.f
    by_cases h : i < (s.size : Int)
    · have go : ∀ k, gjson_validcolon.l0 (k + 1) (bytesOf s) i = gjson_validcolon.j1 k (bytesOf s) i (bt s i) (ws (bt s i)) := by
        intro k
        rw [gjson_validcolon.l0, len_eq, if_pos h, if_pos h0, rd_bytesOf]
        generalize bt s i = c
        by_cases c1 : c = 32
        · subst c1; rfl
        by_cases c2 : c = 9
        · subst c2; rfl
        by_cases c3 : c = 10
        · subst c3; rfl
        rw [if_neg c1, if_neg c2, if_neg c3]
        have : ws c = (c == 13) := by simp [ws, c1, c2, c3]
        rw [this]
      cases hw : ws (bt s i) with
      | true =>
        obtain ⟨k, hk⟩ := ih (i + 1) (by omega) (by omega)
        refine ⟨k + 2, ?_⟩
        rw [go, hw, gjson_validcolon.j1, if_pos rfl, w64 (n := i + 1) (by omega), runEnd_step h hw]
        exact hk
      | false =>
        refine ⟨2, ?_⟩
        rw [go, hw, gjson_validcolon.j1, if_neg (by decide), runEnd_stop (.inr hw), w64 (n := i + 1) (by omega)]
    · refine ⟨1, ?_⟩
      rw [gjson_validcolon.l0, len_eq, if_neg h, runEnd_stop (.inl (by omega)), bt_out (by omega), if_neg (by decide)]
omit h0 in
theorem comma_is (e : Int) (he : e ≠ 0) : ∀ (n : Nat) (i : Int), 0 ≤ i → ((s.size : Int) - i).toNat < n → ∃ k, gjson_validcomma.f k (bytesOf s) i e = some (runEnd ws s i, decide (bt s (runEnd ws s i) = 44) || decide (bt s (runEnd ws s i) = e)) := by
  intro n
  induction n with
  | zero => intro i h0 hn; omega
  | succ n ih =>
    intro i h0 hn
    unfold gjson_validcomma.f
    by_cases h : i < (s.size : Int)
    · have go : ∀ k, gjson_validcomma.l0 (k + 1) (bytesOf s) i e = gjson_validcomma.j1 k (bytesOf s) i e (bt s i) (ws (bt s i)) := by
        intro k
        rw [gjson_validcomma.l0, len_eq, if_pos h, if_pos h0, rd_bytesOf]
        generalize bt s i = c
        by_cases c1 : c = 32
        · subst c1; rfl
        by_cases c2 : c = 9
        · subst c2; rfl
        by_cases c3 : c = 10
        · subst c3; rfl
        rw [if_neg c1, if_neg c2, if_neg c3]
        have : ws c = (c == 13) := by simp [ws, c1, c2, c3]
        rw [this]
      cases hw : ws (bt s i) with
      | true =>
        obtain ⟨k, hk⟩ := ih (i + 1) (by omega) (by omega)
        refine ⟨k + 2, ?_⟩
        rw [go, hw, gjson_validcomma.j1, if_pos rfl, w64 (n := i + 1) (by omega), runEnd_step h hw]
        exact hk
      | false =>
        refine ⟨2, ?_⟩
        rw [go, hw, gjson_validcomma.j1, if_neg (by decide), runEnd_stop (.inr hw)]
        by_cases c1 : bt s i = 44
        · rw [if_pos c1]; simp [c1]
        · rw [if_neg c1]
          by_cases c2 : bt s i = e
          · rw [if_pos c2]; simp [c2]
          · rw [if_neg c2]; simp [c1, c2]
    · refine ⟨1, ?_⟩
      rw [gjson_validcomma.l0, len_eq, if_neg h, runEnd_stop (.inl (by omega)), bt_out (by omega)]
      simp [Ne.symm he]
omit h0 in
theorem n_l0 {r : Int × Bool} : ∀ (n : Nat) (i : Int), 0 ≤ i → ((s.size : Int) - i).toNat < n → (∃ k, gjson_validnumber.j2 k (bytesOf s) (runEnd dg s i) = some r) → ∃ k, gjson_validnumber.l0 k (bytesOf s) i = some r := by
  intro n
  induction n with
  | zero => intro i h0 hn; omega
  | succ n ih =>
    intro i h0 hn h
    by_cases hl : i < (s.size : Int)
    · cases hd : dg (bt s i) with
      | true =>
        rw [runEnd_step hl hd] at h
        obtain ⟨k, hk⟩ := ih (i + 1) (by omega) (by omega) h
        simp only [dg, Bool.and_eq_true, decide_eq_true_eq] at hd
        refine ⟨k + 1, ?_⟩
        rw [gjson_validnumber.l0, len_eq, if_pos hl, if_pos h0, rd_bytesOf, if_pos hd.1, if_pos hd.2, w64 (n := i + 1) (by omega)]
        exact hk
      | false =>
        rw [runEnd_stop (.inr hd)] at h
        obtain ⟨k, hk⟩ := h
        refine ⟨k + 1, ?_⟩
        rw [gjson_validnumber.l0, len_eq, if_pos hl, if_pos h0, rd_bytesOf]
        by_cases c : bt s i ≥ 48
        · rw [if_pos c, if_neg (fun c2 => by simp [dg] at hd; omega)]
          exact hk
        · rw [if_neg c]
          exact hk
    · rw [runEnd_stop (.inl (by omega))] at h
      obtain ⟨k, hk⟩ := h
      refine ⟨k + 1, ?_⟩
      rw [gjson_validnumber.l0, len_eq, if_neg hl]
      exact hk
omit h0 in
theorem n_l1 {r : Int × Bool} : ∀ (n : Nat) (i : Int), 0 ≤ i → ((s.size : Int) - i).toNat < n → (∃ k, gjson_validnumber.j5 k (bytesOf s) (runEnd dg s i) = some r) → ∃ k, gjson_validnumber.l1 k (bytesOf s) i = some r := by
  intro n
  induction n with
  | zero => intro i h0 hn; omega
  | succ n ih =>
    intro i h0 hn h
    by_cases hl : i < (s.size : Int)
    · cases hd : dg (bt s i) with
      | true =>
        rw [runEnd_step hl hd] at h
        obtain ⟨k, hk⟩ := ih (i + 1) (by omega) (by omega) h
        simp only [dg, Bool.and_eq_true, decide_eq_true_eq] at hd
        refine ⟨k + 1, ?_⟩
        rw [gjson_validnumber.l1, len_eq, if_pos hl, if_pos h0, rd_bytesOf, if_pos hd.1, if_pos hd.2, w64 (n := i + 1) (by omega)]
        exact hk
      | false =>
        rw [runEnd_stop (.inr hd)] at h
        obtain ⟨k, hk⟩ := h
        refine ⟨k + 1, ?_⟩
        rw [gjson_validnumber.l1, len_eq, if_pos hl, if_pos h0, rd_bytesOf]
        by_cases c : bt s i ≥ 48
        · rw [if_pos c, if_neg (fun c2 => by simp [dg] at hd; omega)]
          exact hk
        · rw [if_neg c]
          exact hk
    · rw [runEnd_stop (.inl (by omega))] at h
      obtain ⟨k, hk⟩ := h
      refine ⟨k + 1, ?_⟩
      rw [gjson_validnumber.l1, len_eq, if_neg hl]
      exact hk
omit h0 in
theorem n_l2 : ∀ (n : Nat) (i : Int), 0 ≤ i → ((s.size : Int) - i).toNat < n → ∃ k, gjson_validnumber.l2 k (bytesOf s) i = some (runEnd dg s i, true) := by
  intro n
  induction n with
  | zero => intro i h0 hn; omega
  | succ n ih =>
    intro i h0 hn
    by_cases hl : i < (s.size : Int)
    · cases hd : dg (bt s i) with
      | true =>
        rw [runEnd_step hl hd]
        obtain ⟨k, hk⟩ := ih (i + 1) (by omega) (by omega)
        simp only [dg, Bool.and_eq_true, decide_eq_true_eq] at hd
        refine ⟨k + 1, ?_⟩
        rw [gjson_validnumber.l2, len_eq, if_pos hl, if_pos h0, rd_bytesOf, if_pos hd.1, if_pos hd.2, w64 (n := i + 1) (by omega)]
        exact hk
      | false =>
        rw [runEnd_stop (.inr hd)]
        refine ⟨1, ?_⟩
        rw [gjson_validnumber.l2, len_eq, if_pos hl, if_pos h0, rd_bytesOf]
        by_cases c : bt s i ≥ 48
        · rw [if_pos c, if_neg (fun c2 => by simp [dg] at hd; omega)]
        · rw [if_neg c]
    · rw [runEnd_stop (.inl (by omega))]
      refine ⟨1, ?_⟩
      rw [gjson_validnumber.l2, len_eq, if_neg hl]
def NumIs (bad : Bool) (e : Int) (r : Int × Bool) : Prop := r.2 = (!bad) ∧ (bad = false → r.1 = e)
theorem n_j8 (h1 : i ≤ (s.size : Int)) : ∃ k r, gjson_validnumber.j8 k (bytesOf s) i = some r ∧ NumIs (!dg (bt s i)) (runEnd dg s i) r := by
  by_cases c : i = (s.size : Int)
  · refine ⟨1, (i, false), ?_, ?_⟩
    · rw [gjson_validnumber.j8, len_eq, if_pos c]
    · rw [bt_out (by omega)]
      exact ⟨rfl, fun h => absurd h (by decide)⟩
  · have hl : i < (s.size : Int) := by omega
    cases hd : dg (bt s i) with
    | true =>
      obtain ⟨k, hk⟩ := n_l2 hs _ (i + 1) (by omega) (Nat.lt_succ_self _)
      refine ⟨k + 2, (runEnd dg s i, true), ?_, rfl, fun _ => rfl⟩
      rw [runEnd_step hl hd]
      simp only [dg, Bool.and_eq_true, decide_eq_true_eq] at hd
      rw [gjson_validnumber.j8, len_eq, if_neg c, if_pos h0, if_pos hl, rd_bytesOf, if_neg (by omega), gjson_validnumber.j9, if_neg (by simp; omega), w64 (n := i + 1) (by omega)]
      exact hk
    | false =>
      refine ⟨2, (i, false), ?_, rfl, fun h => absurd h (by decide)⟩
      rw [gjson_validnumber.j8, len_eq, if_neg c, if_pos h0, if_pos hl, rd_bytesOf]
      by_cases c2 : bt s i < 48
      · rw [if_pos c2, gjson_validnumber.j9, if_pos rfl]
      · rw [if_neg c2, gjson_validnumber.j9, if_pos (decide_eq_true (by simp [dg] at hd; omega))]
theorem n_j5 (h1 : i ≤ (s.size : Int)) : ∃ k r, gjson_validnumber.j5 k (bytesOf s) i = some r ∧ NumIs (nExpB s i) (nExp s i) r := by
  by_cases c : i = (s.size : Int)
  · refine ⟨1, (i, true), ?_, ?_⟩
    · rw [gjson_validnumber.j5, len_eq, if_pos c]
    · unfold nExpB nExp
      rw [bt_out (s := s) (i := i) (by omega)]
      exact ⟨rfl, fun _ => rfl⟩
  · have hl : i < (s.size : Int) := by omega
    have go : ∀ k, gjson_validnumber.j5 (k + 1) (bytesOf s) i = gjson_validnumber.j6 k (bytesOf s) i (isE (bt s i)) := by
      intro k
      rw [gjson_validnumber.j5, len_eq, if_neg c, if_pos h0, if_pos hl, rd_bytesOf]
      by_cases c1 : bt s i = 101
      · rw [if_pos c1, c1]; rfl
      · rw [if_neg c1]
        have : isE (bt s i) = (bt s i == 69) := by simp [isE, c1]
        rw [this]
    unfold nExpB nExp
    cases hE : isE (bt s i) with
    | false =>
      refine ⟨2, (i, true), ?_, rfl, fun _ => rfl⟩
      rw [go, hE, gjson_validnumber.j6, if_neg (by decide)]
    | true =>
      rw [if_pos rfl, Bool.true_and]
      by_cases c2 : i + 1 = (s.size : Int)
      · refine ⟨2, (i + 1, false), ?_, ?_⟩
        · rw [go, hE, gjson_validnumber.j6, if_pos rfl, len_eq, w64 (n := i + 1) (by omega), if_pos c2]
        · have e1 : nAt s (i + 1) = i + 1 := by unfold nAt; rw [bt_out (s := s) (i := i + 1) (by omega), if_neg (by decide), if_neg (by decide)]
          rw [e1, bt_out (s := s) (i := i + 1) (by omega)]
          exact ⟨rfl, fun h => absurd h (by decide)⟩
      · have hA := nAt_le (s := s) (i := i + 1) (by omega)
        obtain ⟨k, r, hk, hr⟩ := n_j8 hs (i := nAt s (i + 1)) (by omega) hA.2
        refine ⟨k + 3, r, ?_, hr⟩
        rw [go, hE, gjson_validnumber.j6, if_pos rfl, len_eq, w64 (n := i + 1) (by omega), if_neg c2, if_pos (by omega), if_pos (by omega), rd_bytesOf]
        unfold nAt at hk
        by_cases c3 : bt s (i + 1) = 43
        · rw [if_pos c3] at hk
          rw [if_pos c3, gjson_validnumber.j7, if_pos rfl, w64 (n := i + 1 + 1) (by omega)]
          exact hk
        · rw [if_neg c3] at hk
          rw [if_neg c3, gjson_validnumber.j7]
          by_cases c4 : bt s (i + 1) = 45
          · rw [if_pos c4] at hk
            rw [if_pos (by simpa using c4), w64 (n := i + 1 + 1) (by omega)]
            exact hk
          · rw [if_neg c4] at hk
            rw [if_neg (by simpa using c4)]
            exact hk
theorem n_j2 (h1 : i ≤ (s.size : Int)) : ∃ k r, gjson_validnumber.j2 k (bytesOf s) i = some r ∧ NumIs (nFracB s i || nExpB s (nFrac s i)) (nExp s (nFrac s i)) r := by
  by_cases c : i = (s.size : Int)
  · refine ⟨1, (i, true), ?_, ?_⟩
    · rw [gjson_validnumber.j2, len_eq, if_pos c]
    · have e1 : nFrac s i = i := by unfold nFrac; rw [bt_out (s := s) (i := i) (by omega), if_neg (by decide)]
      rw [e1]
      unfold nFracB nExpB nExp
      rw [bt_out (s := s) (i := i) (by omega)]
      exact ⟨rfl, fun _ => rfl⟩
  · have hl : i < (s.size : Int) := by omega
    by_cases c1 : bt s i = 46
    · have e1 : nFrac s i = runEnd dg s (i + 1) := by unfold nFrac; rw [if_pos c1]
      have e2 : nFracB s i = !dg (bt s (i + 1)) := by unfold nFracB; rw [c1]; rfl
      rw [e1, e2]
      by_cases c2 : i + 1 = (s.size : Int)
      · refine ⟨1, (i + 1, false), ?_, ?_⟩
        · rw [gjson_validnumber.j2, len_eq, if_neg c, if_pos h0, if_pos hl, rd_bytesOf, if_pos c1, w64 (n := i + 1) (by omega), if_pos c2]
        · rw [bt_out (s := s) (i := i + 1) (by omega)]
          exact ⟨rfl, fun h => absurd h (by simp [dg])⟩
      · cases hd : dg (bt s (i + 1)) with
        | true =>
          have hr := runEnd_le (p := dg) (s := s) (i := i + 1) (by omega)
          obtain ⟨k, r, hk, hr2⟩ := n_j5 hs (i := runEnd dg s (i + 1)) (by omega) hr.2
          rw [runEnd_step (by omega) hd] at hk
          obtain ⟨k2, hk2⟩ := n_l1 hs _ (i + 1 + 1) (by omega) (Nat.lt_succ_self _) ⟨k, hk⟩
          refine ⟨k2 + 2, r, ?_, hr2⟩
          simp only [dg, Bool.and_eq_true, decide_eq_true_eq] at hd
          rw [gjson_validnumber.j2, len_eq, if_neg c, if_pos h0, if_pos hl, rd_bytesOf, if_pos c1, w64 (n := i + 1) (by omega), if_neg c2, if_pos (by omega), if_pos (by omega), rd_bytesOf, if_neg (by omega), gjson_validnumber.j3, if_neg (by simp; omega), w64 (n := i + 1 + 1) (by omega)]
          exact hk2
        | false =>
          refine ⟨2, (i + 1, false), ?_, rfl, fun h => absurd h (by simp)⟩
          rw [gjson_validnumber.j2, len_eq, if_neg c, if_pos h0, if_pos hl, rd_bytesOf, if_pos c1, w64 (n := i + 1) (by omega), if_neg c2, if_pos (by omega), if_pos (by omega), rd_bytesOf]
          by_cases c3 : bt s (i + 1) < 48
          · rw [if_pos c3, gjson_validnumber.j3, if_pos rfl]
          · rw [if_neg c3, gjson_validnumber.j3, if_pos (decide_eq_true (by simp [dg] at hd; omega))]
    · have e1 : nFrac s i = i := by unfold nFrac; rw [if_neg c1]
      have e2 : nFracB s i = false := by unfold nFracB; simp [c1]
      rw [e1, e2, Bool.false_or]
      obtain ⟨k, r, hk, hr⟩ := n_j5 hs h0 h1
      refine ⟨k + 1, r, ?_, hr⟩
      rw [gjson_validnumber.j2, len_eq, if_neg c, if_pos h0, if_pos hl, rd_bytesOf, if_neg c1]
      exact hk
theorem n_j0 (hd : dg (bt s i) = true) : ∃ k r, gjson_validnumber.j0 k (bytesOf s) i = some r ∧ NumIs (nFracB s (nInt s i) || nExpB s (nFrac s (nInt s i))) (nExp s (nFrac s (nInt s i))) r := by
  have hl : i < (s.size : Int) := lt_of_bt (by intro e; rw [e] at hd; exact absurd hd (by decide))
  have hN := nInt_le (s := s) (i := i) (by omega)
  obtain ⟨k, r, hk, hr⟩ := n_j2 hs (i := nInt s i) (by omega) hN.2
  unfold nInt at hk
  by_cases c1 : bt s i = 48
  · rw [if_pos c1] at hk
    refine ⟨k + 1, r, ?_, hr⟩
    rw [gjson_validnumber.j0, len_eq, if_neg (by omega), if_pos h0, if_pos hl, rd_bytesOf, if_pos c1, w64 (n := i + 1) (by omega)]
    exact hk
  · rw [if_neg c1] at hk
    obtain ⟨k2, hk2⟩ := n_l0 hs _ i h0 (Nat.lt_succ_self _) ⟨k, hk⟩
    refine ⟨k2 + 1, r, ?_, hr⟩
    rw [gjson_validnumber.j0, len_eq, if_neg (by omega), if_pos h0, if_pos hl, rd_bytesOf, if_neg c1]
    exact hk2
theorem number_is (hd : bt s i = 45 ∨ dg (bt s i) = true) : ∃ k r, gjson_validnumber.f k (bytesOf s) (i + 1) = some r ∧ NumIs (numBad s i) (numEnd s i) r := by
  have hl : i < (s.size : Int) := by
    rcases hd with h | h
    · exact lt_of_bt (by omega)
    · exact lt_of_bt (by intro e; rw [e] at h; exact absurd h (by decide))
  unfold numBad numEnd gjson_validnumber.f
  rw [len_eq, w64 (n := i + 1 - 1) (by omega), show i + 1 - 1 = i by omega, rd_bytesOf, w64 (n := i + 1) (by omega), rd_bytesOf]
  by_cases c1 : bt s i = 45
  · have e1 : nSign s i = i + 1 := by unfold nSign; rw [if_pos c1]
    rw [e1]
    cases hd2 : dg (bt s (i + 1)) with
    | true =>
      have hl2 : i + 1 < (s.size : Int) := lt_of_bt (by intro e; rw [e] at hd2; exact absurd hd2 (by decide))
      obtain ⟨k, r, hk, hr⟩ := n_j0 hs (i := i + 1) (by omega) hd2
      refine ⟨k, r, ?_, by rw [Bool.not_true, Bool.false_or]; exact hr⟩
      simp only [dg, Bool.and_eq_true, decide_eq_true_eq] at hd2
      rw [if_pos h0, if_pos hl, if_pos c1, if_neg (by omega), if_pos (by omega), if_pos hl2, if_neg (by omega), if_neg (by omega)]
      exact hk
    | false =>
      refine ⟨0, (i + 1, false), ?_, by simp, fun h => absurd h (by simp)⟩
      rw [if_pos h0, if_pos hl, if_pos c1]
      by_cases c2 : i + 1 = (s.size : Int)
      · rw [if_pos c2]
      · rw [if_neg c2, if_pos (by omega), if_pos (by omega)]
        by_cases c3 : bt s (i + 1) < 48
        · rw [if_pos c3]
        · rw [if_neg c3, if_pos (by simp [dg] at hd2; omega)]
  · have hd2 : dg (bt s i) = true := by
      rcases hd with h | h
      · exact absurd h c1
      · exact h
    have e1 : nSign s i = i := by unfold nSign; rw [if_neg c1]
    rw [e1, hd2]
    obtain ⟨k, r, hk, hr⟩ := n_j0 hs h0 hd2
    refine ⟨k, r, ?_, by rw [Bool.not_true, Bool.false_or]; exact hr⟩
    rw [if_pos h0, if_pos hl, if_neg c1]
    exact hk
theorem true_is (hc : bt s i = 116) : ∃ r, gjson_validtrue.f (bytesOf s) (i + 1) = some r ∧ (r.2 = true → r.1 = i + 4 ∧ wordAt s i (⟨#[116, 114, 117, 101]⟩ : ByteArray)) ∧ (wordAt s i (⟨#[116, 114, 117, 101]⟩ : ByteArray) → r.2 = true) := by
  have hl : i < (s.size : Int) := lt_of_bt (by omega)
  have b0 : bt (⟨#[116, 114, 117, 101]⟩ : ByteArray) 0 = 116 := by decide
  have b1 : bt (⟨#[116, 114, 117, 101]⟩ : ByteArray) 1 = 114 := by decide
  have b2 : bt (⟨#[116, 114, 117, 101]⟩ : ByteArray) 2 = 117 := by decide
  have b3 : bt (⟨#[116, 114, 117, 101]⟩ : ByteArray) 3 = 101 := by decide
  have back : bt s (i + 1) = 114 → bt s (i + 2) = 117 → bt s (i + 3) = 101 → wordAt s i (⟨#[116, 114, 117, 101]⟩ : ByteArray) := by
    intro h1 h2 h3 q hq0 hq1
    have hq2 : q < 4 := hq1
    have hq3 : q = 0 ∨ q = 1 ∨ q = 2 ∨ q = 3 := by omega
    rcases hq3 with rfl | rfl | rfl | rfl
    · rw [Int.add_zero, b0]; exact hc
    · rw [b1]; exact h1
    · rw [b2]; exact h2
    · rw [b3]; exact h3
  have fwd : wordAt s i (⟨#[116, 114, 117, 101]⟩ : ByteArray) → bt s (i + 1) = 114 ∧ bt s (i + 2) = 117 ∧ bt s (i + 3) = 101 := fun h => ⟨by have := h 1 (by decide) (by decide); rw [b1] at this; exact this, by have := h 2 (by decide) (by decide); rw [b2] at this; exact this, by have := h 3 (by decide) (by decide); rw [b3] at this; exact this⟩
  unfold gjson_validtrue.f
  rw [len_eq, w64 (n := i + 1 + 3) (by omega), show i + 1 + 3 = i + 4 by omega]
  by_cases c0 : i + 4 ≤ (s.size : Int)
  · rw [if_pos c0, if_pos (by omega), if_pos (by omega), rd_bytesOf]
    by_cases c1 : bt s (i + 1) = 114
    case neg => exact ⟨(i + 1, false), by rw [if_neg c1], fun h => absurd h Bool.false_ne_true, fun h => absurd (fwd h).1 c1⟩
    rw [if_pos c1]
    rw [w64 (n := i + 1 + 1) (by omega), show i + 1 + 1 = i + 2 by omega, if_pos (by omega), if_pos (by omega), rd_bytesOf]
    by_cases c2 : bt s (i + 2) = 117
    case neg => exact ⟨(i + 1, false), by rw [if_neg c2], fun h => absurd h Bool.false_ne_true, fun h => absurd (fwd h).2.1 c2⟩
    rw [if_pos c2]
    rw [w64 (n := i + 1 + 2) (by omega), show i + 1 + 2 = i + 3 by omega, if_pos (by omega), if_pos (by omega), rd_bytesOf]
    by_cases c3 : bt s (i + 3) = 101
    case neg => exact ⟨(i + 1, false), by rw [if_neg c3], fun h => absurd h Bool.false_ne_true, fun h => absurd (fwd h).2.2 c3⟩
    rw [if_pos c3]
    exact ⟨(i + 4, true), rfl, fun _ => ⟨rfl, back c1 c2 c3⟩, fun _ => rfl⟩
  · refine ⟨(i + 1, false), by rw [if_neg c0], fun h => absurd h Bool.false_ne_true, fun h => ?_⟩
    have hlast := (fwd h).2.2
    have := lt_of_bt (s := s) (i := i + 3) (by omega)
    omega
theorem false_is (hc : bt s i = 102) : ∃ r, gjson_validfalse.f (bytesOf s) (i + 1) = some r ∧ (r.2 = true → r.1 = i + 5 ∧ wordAt s i (⟨#[102, 97, 108, 115, 101]⟩ : ByteArray)) ∧ (wordAt s i (⟨#[102, 97, 108, 115, 101]⟩ : ByteArray) → r.2 = true) := by
  have hl : i < (s.size : Int) := lt_of_bt (by omega)
  have b0 : bt (⟨#[102, 97, 108, 115, 101]⟩ : ByteArray) 0 = 102 := by decide
  have b1 : bt (⟨#[102, 97, 108, 115, 101]⟩ : ByteArray) 1 = 97 := by decide
  have b2 : bt (⟨#[102, 97, 108, 115, 101]⟩ : ByteArray) 2 = 108 := by decide
  have b3 : bt (⟨#[102, 97, 108, 115, 101]⟩ : ByteArray) 3 = 115 := by decide
  have b4 : bt (⟨#[102, 97, 108, 115, 101]⟩ : ByteArray) 4 = 101 := by decide
  have back : bt s (i + 1) = 97 → bt s (i + 2) = 108 → bt s (i + 3) = 115 → bt s (i + 4) = 101 → wordAt s i (⟨#[102, 97, 108, 115, 101]⟩ : ByteArray) := by
    intro h1 h2 h3 h4 q hq0 hq1
    have hq2 : q < 5 := hq1
    have hq3 : q = 0 ∨ q = 1 ∨ q = 2 ∨ q = 3 ∨ q = 4 := by omega
    rcases hq3 with rfl | rfl | rfl | rfl | rfl
    · rw [Int.add_zero, b0]; exact hc
    · rw [b1]; exact h1
    · rw [b2]; exact h2
    · rw [b3]; exact h3
    · rw [b4]; exact h4
  have fwd : wordAt s i (⟨#[102, 97, 108, 115, 101]⟩ : ByteArray) → bt s (i + 1) = 97 ∧ bt s (i + 2) = 108 ∧ bt s (i + 3) = 115 ∧ bt s (i + 4) = 101 := fun h => ⟨by have := h 1 (by decide) (by decide); rw [b1] at this; exact this, by have := h 2 (by decide) (by decide); rw [b2] at this; exact this, by have := h 3 (by decide) (by decide); rw [b3] at this; exact this, by have := h 4 (by decide) (by decide); rw [b4] at this; exact this⟩
  unfold gjson_validfalse.f
  rw [len_eq, w64 (n := i + 1 + 4) (by omega), show i + 1 + 4 = i + 5 by omega]
  by_cases c0 : i + 5 ≤ (s.size : Int)
  · rw [if_pos c0, if_pos (by omega), if_pos (by omega), rd_bytesOf]
    by_cases c1 : bt s (i + 1) = 97
    case neg => exact ⟨(i + 1, false), by rw [if_neg c1], fun h => absurd h Bool.false_ne_true, fun h => absurd (fwd h).1 c1⟩
    rw [if_pos c1]
    rw [w64 (n := i + 1 + 1) (by omega), show i + 1 + 1 = i + 2 by omega, if_pos (by omega), if_pos (by omega), rd_bytesOf]
    by_cases c2 : bt s (i + 2) = 108
    case neg => exact ⟨(i + 1, false), by rw [if_neg c2], fun h => absurd h Bool.false_ne_true, fun h => absurd (fwd h).2.1 c2⟩
    rw [if_pos c2]
    rw [w64 (n := i + 1 + 2) (by omega), show i + 1 + 2 = i + 3 by omega, if_pos (by omega), if_pos (by omega), rd_bytesOf]
    by_cases c3 : bt s (i + 3) = 115
    case neg => exact ⟨(i + 1, false), by rw [if_neg c3], fun h => absurd h Bool.false_ne_true, fun h => absurd (fwd h).2.2.1 c3⟩
    rw [if_pos c3]
    rw [w64 (n := i + 1 + 3) (by omega), show i + 1 + 3 = i + 4 by omega, if_pos (by omega), if_pos (by omega), rd_bytesOf]
    by_cases c4 : bt s (i + 4) = 101
    case neg => exact ⟨(i + 1, false), by rw [if_neg c4], fun h => absurd h Bool.false_ne_true, fun h => absurd (fwd h).2.2.2 c4⟩
    rw [if_pos c4]
    exact ⟨(i + 5, true), rfl, fun _ => ⟨rfl, back c1 c2 c3 c4⟩, fun _ => rfl⟩
  · refine ⟨(i + 1, false), by rw [if_neg c0], fun h => absurd h Bool.false_ne_true, fun h => ?_⟩
    have hlast := (fwd h).2.2.2
    have := lt_of_bt (s := s) (i := i + 4) (by omega)
    omega
theorem null_is (hc : bt s i = 110) : ∃ r, gjson_validnull.f (bytesOf s) (i + 1) = some r ∧ (r.2 = true → r.1 = i + 4 ∧ wordAt s i (⟨#[110, 117, 108, 108]⟩ : ByteArray)) ∧ (wordAt s i (⟨#[110, 117, 108, 108]⟩ : ByteArray) → r.2 = true) := by
  have hl : i < (s.size : Int) := lt_of_bt (by omega)
  have b0 : bt (⟨#[110, 117, 108, 108]⟩ : ByteArray) 0 = 110 := by decide
  have b1 : bt (⟨#[110, 117, 108, 108]⟩ : ByteArray) 1 = 117 := by decide
  have b2 : bt (⟨#[110, 117, 108, 108]⟩ : ByteArray) 2 = 108 := by decide
  have b3 : bt (⟨#[110, 117, 108, 108]⟩ : ByteArray) 3 = 108 := by decide
  have back : bt s (i + 1) = 117 → bt s (i + 2) = 108 → bt s (i + 3) = 108 → wordAt s i (⟨#[110, 117, 108, 108]⟩ : ByteArray) := by
    intro h1 h2 h3 q hq0 hq1
    have hq2 : q < 4 := hq1
    have hq3 : q = 0 ∨ q = 1 ∨ q = 2 ∨ q = 3 := by omega
    rcases hq3 with rfl | rfl | rfl | rfl
    · rw [Int.add_zero, b0]; exact hc
    · rw [b1]; exact h1
    · rw [b2]; exact h2
    · rw [b3]; exact h3
  have fwd : wordAt s i (⟨#[110, 117, 108, 108]⟩ : ByteArray) → bt s (i + 1) = 117 ∧ bt s (i + 2) = 108 ∧ bt s (i + 3) = 108 := fun h => ⟨by have := h 1 (by decide) (by decide); rw [b1] at this; exact this, by have := h 2 (by decide) (by decide); rw [b2] at this; exact this, by have := h 3 (by decide) (by decide); rw [b3] at this; exact this⟩
  unfold gjson_validnull.f
  rw [len_eq, w64 (n := i + 1 + 3) (by omega), show i + 1 + 3 = i + 4 by omega]
  by_cases c0 : i + 4 ≤ (s.size : Int)
  · rw [if_pos c0, if_pos (by omega), if_pos (by omega), rd_bytesOf]
    by_cases c1 : bt s (i + 1) = 117
    case neg => exact ⟨(i + 1, false), by rw [if_neg c1], fun h => absurd h Bool.false_ne_true, fun h => absurd (fwd h).1 c1⟩
    rw [if_pos c1]
    rw [w64 (n := i + 1 + 1) (by omega), show i + 1 + 1 = i + 2 by omega, if_pos (by omega), if_pos (by omega), rd_bytesOf]
    by_cases c2 : bt s (i + 2) = 108
    case neg => exact ⟨(i + 1, false), by rw [if_neg c2], fun h => absurd h Bool.false_ne_true, fun h => absurd (fwd h).2.1 c2⟩
    rw [if_pos c2]
    rw [w64 (n := i + 1 + 2) (by omega), show i + 1 + 2 = i + 3 by omega, if_pos (by omega), if_pos (by omega), rd_bytesOf]
    by_cases c3 : bt s (i + 3) = 108
    case neg => exact ⟨(i + 1, false), by rw [if_neg c3], fun h => absurd h Bool.false_ne_true, fun h => absurd (fwd h).2.2 c3⟩
    rw [if_pos c3]
    exact ⟨(i + 4, true), rfl, fun _ => ⟨rfl, back c1 c2 c3⟩, fun _ => rfl⟩
  · refine ⟨(i + 1, false), by rw [if_neg c0], fun h => absurd h Bool.false_ne_true, fun h => ?_⟩
    have hlast := (fwd h).2.2
    have := lt_of_bt (s := s) (i := i + 3) (by omega)
    omega
end
end Go.Proofs.YtldfejbmdonaoaaGreatDoor.Vp