/- Joined by a program of mine from texts of this claim: Vt. -/
import Derived.Test.YtldfejbmdonaoaaGreatDoorZ17
namespace Go.Proofs.YtldfejbmdonaoaaGreatDoor.Vt
open Go.RowKit YtldfejbmdonaoaaGreatDoorW.PrintWords YtldfejbmdonaoaaGreatDoorW.PrintLast YtldfejbmdonaoaaGreatDoorW.PrintMore Tw Tf Tp Te Tg Ti Sp
set_option linter.unusedVariables false
set_option linter.unusedSimpArgs false
set_option linter.unusedSectionVars false
theorem fin_any {kind : Int} {str : ByteArray} {P : Bool} {K : List ByteArray} {I : List JT} {i0 i j : Int} {s s' : ByteArray} {b b' : Bool} {T : JT} (h : finF kind str P K I i0 s i b = some (T, s', j, b')) : b' = b ∧ j = i ∧ s' = s := by
  unfold finF at h
  cases b with
  | true =>
    rw [if_pos rfl] at h
    simp only [Option.some.injEq, Prod.mk.injEq] at h
    exact ⟨h.2.2.2.symm, h.2.2.1.symm, h.2.1.symm⟩
  | false =>
    rw [if_neg (by decide)] at h
    split at h
    · split at h
      · split at h
        · simp only [Option.some.injEq, Prod.mk.injEq] at h
          exact ⟨h.2.2.2.symm, h.2.2.1.symm, h.2.1.symm⟩
        · exact absurd h (by simp)
      · exact absurd h (by simp)
    · exact absurd h (by simp)
section
variable {s s' : ByteArray} (hs : (s.size : Int) ≤ 65536) {k : Nat} {i j : Int} (h0 : 0 ≤ i) (h1 : i ≤ (s.size : Int)) {T : JT} {b : Bool} (hk : 8 * ((s.size : Int) - i) + 163 ≤ k) (h : treeF (k + 1) s i false = some (T, s', j, b))
include hs h0 h1 hk h
theorem t_str (c1 : bt s i = 34) : match strR s (i + 1) with | some (_, _, j') => b = false ∧ j = j' | none => b = true := by
  have hs' : (s.size : Int) ≤ 2147483647 := by omega
  rw [treeF, next_eq h0] at h
  simp only [Option.bind_some] at h
  rw [if_pos c1] at h
  have ht := text_good hs' h0 h1 (k := k) (by omega) c1
  revert ht
  cases hR : strR s (i + 1) with
  | none =>
    rintro ⟨t, p, j', e, _⟩
    rw [e] at h
    exact (fin_any h).1
  | some r =>
    obtain ⟨l, p, j'⟩ := r
    intro e
    replace e : _ = some (strOfNums ([] ++ l), true && p, s, j', false) := e
    rw [e] at h
    exact ⟨(fin_any h).1, (fin_any h).2.1⟩
theorem t_word (c : Int) (x : ByteArray) (hx : c = 116 ∧ x = (⟨#[116, 114, 117, 101]⟩ : ByteArray) ∨ c = 102 ∧ x = (⟨#[102, 97, 108, 115, 101]⟩ : ByteArray) ∨ c = 110 ∧ x = (⟨#[110, 117, 108, 108]⟩ : ByteArray)) (hc : bt s i = c) :
    (b = false → j = i + x.size ∧ wordAt s i x) ∧ (wordAt s i x → b = false) := by
  have hs' : (s.size : Int) ≤ 2147483647 := by omega
  have go : ∀ kind, ((spec_reading_word.f k s i false x).bind fun t => finF kind (⟨#[]⟩ : ByteArray) true [] [] i t.1 t.2.1 t.2.2) = some (T, s', j, b) → (b = false → j = i + x.size ∧ wordAt s i x) ∧ (wordAt s i x → b = false) := by
    intro kind h
    have h3 := three x (by rcases hx with ⟨_, h⟩ | ⟨_, h⟩ | ⟨_, h⟩ <;> simp [h])
    obtain ⟨j', b', e, _, _, j3, j4, _⟩ := word_eq hs' x h3.1 h3.2 h0 h1 false (k := k) (by omega)
    rw [e] at h
    obtain ⟨e1, e2, _⟩ := fin_any h
    replace e1 : b = b' := e1
    replace e2 : j = j' := e2
    subst e1 e2
    exact ⟨j3, j4 rfl⟩
  rw [treeF, next_eq h0] at h
  simp only [Option.bind_some] at h
  rcases hx with ⟨rfl, rfl⟩ | ⟨rfl, rfl⟩ | ⟨rfl, rfl⟩
  · rw [if_neg (by omega), if_pos hc] at h
    exact go _ h
  · rw [if_neg (by omega), if_neg (by omega), if_pos hc] at h
    exact go _ h
  · rw [if_neg (by omega), if_neg (by omega), if_neg (by omega), if_pos hc] at h
    exact go _ h
theorem t_num (hc : bt s i ≠ 34 ∧ bt s i ≠ 116 ∧ bt s i ≠ 102 ∧ bt s i ≠ 110 ∧ bt s i ≠ 123 ∧ bt s i ≠ 91) : b = numBad s i ∧ j = numEnd s i := by
  have hs' : (s.size : Int) ≤ 2147483647 := by omega
  obtain ⟨c1, c2, c3, c4, c5, c6⟩ := hc
  rw [treeF, next_eq h0] at h
  simp only [Option.bind_some] at h
  rw [if_neg c1, if_neg c2, if_neg c3, if_neg c4, if_neg c5, if_neg c6, number_eq hs' h0 h1 false (by omega)] at h
  have := fin_any h
  exact ⟨by rw [this.1]; simp, this.2.1⟩
theorem t_none (hc : bt s i ≠ 34 ∧ bt s i ≠ 116 ∧ bt s i ≠ 102 ∧ bt s i ≠ 110 ∧ bt s i ≠ 123 ∧ bt s i ≠ 91) (h2 : bt s i ≠ 45) (h3 : dg (bt s i) = false) : b = true := by
  rw [(t_num hs h0 h1 hk h hc).1]
  have e1 : nSign s i = i := by unfold nSign; rw [if_neg h2]
  unfold numBad
  rw [e1, h3]
  rfl
theorem t_list (e : Int) (ks : Bool) (hc : bt s i = 123 ∧ e = 125 ∧ ks = true ∨ bt s i = 91 ∧ e = 93 ∧ ks = false) : ∃ K I P, listF k s i false e ks = some (K, I, P, s, j, b) := by
  have hlt := lt_of_bt (s := s) (i := i) (by omega)
  obtain ⟨K, I, P, j', b', e1, _, _, _⟩ := (all_read hs k).2.1 i false e ks h0 (by omega) (by omega) (by omega)
  rw [treeF, next_eq h0] at h
  simp only [Option.bind_some] at h
  rcases hc with ⟨hc, rfl, rfl⟩ | ⟨hc, rfl, rfl⟩
  · rw [if_neg (by omega), if_neg (by omega), if_neg (by omega), if_neg (by omega), if_pos hc, e1] at h
    obtain ⟨e2, e3, _⟩ := fin_any h
    replace e2 : b = b' := e2
    replace e3 : j = j' := e3
    subst e2 e3
    exact ⟨K, I, P, e1⟩
  · rw [if_neg (by omega), if_neg (by omega), if_neg (by omega), if_neg (by omega), if_neg (by omega), if_pos hc, e1] at h
    obtain ⟨e2, e3, _⟩ := fin_any h
    replace e2 : b = b' := e2
    replace e3 : j = j' := e3
    subst e2 e3
    exact ⟨K, I, P, e1⟩
end
section
variable {s s' : ByteArray} (hs : (s.size : Int) ≤ 65536) {k : Nat} {i j : Int} (h0 : 0 ≤ i) {b : Bool} {e : Int} {ks : Bool} {K0 K : List ByteArray} {I0 I : List JT} {P0 P : Bool} (he : e ≠ 0)
include hs h0 he
theorem t_listF (h1 : i + 1 ≤ (s.size : Int)) (hk : 8 * ((s.size : Int) - (i + 1)) + 169 ≤ k) (h : listF (k + 1) s i false e ks = some (K, I, P, s', j, b)) :
    (bt s (runEnd ws s (i + 1)) = e ∧ b = false ∧ j = runEnd ws s (i + 1) + 1) ∨ (bt s (runEnd ws s (i + 1)) ≠ e ∧ loopF k s (runEnd ws s (i + 1)) false e ks [] [] true = some (K, I, P, s', j, b)) := by
  have hs' : (s.size : Int) ≤ 2147483647 := by omega
  have hb := runEnd_le (p := ws) (s := s) (i := i + 1) h1
  rw [listF, w64 (n := i + 1) (by omega), blank_eq hs' (by omega) false (by omega)] at h
  simp only [Option.bind_some] at h
  rw [next_eq (by omega)] at h
  simp only [Option.bind_some] at h
  by_cases c : bt s (runEnd ws s (i + 1)) = e
  · have hlt := lt_of_bt (s := s) (i := runEnd ws s (i + 1)) (by rw [c]; exact he)
    rw [if_pos c, w64 (n := runEnd ws s (i + 1) + 1) (by omega)] at h
    simp only [Option.some.injEq, Prod.mk.injEq] at h
    exact .inl ⟨c, h.2.2.2.2.2.symm, h.2.2.2.2.1.symm⟩
  · rw [if_neg c] at h
    exact .inr ⟨c, h⟩
theorem t_loopF (h1 : i ≤ (s.size : Int)) (hK : (K0.length : Int) ≤ i) (hI : (I0.length : Int) ≤ i) (hk : 8 * ((s.size : Int) - i) + 168 ≤ k) (h : loopF (k + 1) s i false e ks K0 I0 P0 = some (K, I, P, s', j, b)) :
    (ks = false ∧ itemF k s i false e ks K0 I0 P0 = some (K, I, P, s', j, b)) ∨
    (ks = true ∧ ((b = true ∧ (bt s i ≠ 34 ∨ strR s (i + 1) = none ∨ ∃ l p j1, strR s (i + 1) = some (l, p, j1) ∧ bt s (runEnd ws s j1) ≠ 58)) ∨
      (bt s i = 34 ∧ ∃ l p j1, strR s (i + 1) = some (l, p, j1) ∧ bt s (runEnd ws s j1) = 58 ∧ itemF k s (runEnd ws s (runEnd ws s j1 + 1)) false e ks (K0 ++ [strOfNums l]) I0 (P0 && p) = some (K, I, P, s', j, b)))) := by
  cases b with
  | false =>
    rcases loop_inv hs h0 h1 he hK hI hk h with hh | ⟨h2, h3, l, p, j1, h4, h5, h6⟩
    · exact .inl hh
    · exact .inr ⟨h2, .inr ⟨h3, l, p, j1, h4, h5, h6⟩⟩
  | true =>
    have hs' : (s.size : Int) ≤ 2147483647 := by omega
    rw [loopF, if_neg (by decide), if_pos (show K0.length < 1000000 by omega)] at h
    cases ks with
    | false =>
      rw [if_neg (by decide)] at h
      exact .inl ⟨rfl, h⟩
    | true =>
      rw [if_pos rfl] at h
      refine .inr ⟨rfl, ?_⟩
      by_cases c1 : bt s i = 34
      · have ht := text_good hs' h0 h1 (k := k) (by omega) c1
        revert ht
        cases hR : strR s (i + 1) with
        | none => exact fun _ => .inl ⟨rfl, .inr (.inl rfl)⟩
        | some r =>
          obtain ⟨l, p, j1⟩ := r
          have hj : i + 1 + 1 ≤ j1 ∧ j1 ≤ (s.size : Int) := strR_le _ _ hR
          have hb1 := runEnd_le (p := ws) (s := s) (i := j1) hj.2
          intro e1
          replace e1 : _ = some (strOfNums ([] ++ l), true && p, s, j1, false) := e1
          rw [e1] at h
          simp only [Option.bind_some] at h
          rw [blank_eq hs' (by omega) false (by omega)] at h
          simp only [Option.bind_some] at h
          rw [take_eq (by omega) hs' _ _ (by decide)] at h
          by_cases c : bt s (runEnd ws s j1) = 58
          · have hlt := lt_of_bt (s := s) (i := runEnd ws s j1) (by omega)
            rw [if_pos c] at h
            simp only [Option.bind_some] at h
            rw [blank_eq hs' (by omega) false (by omega)] at h
            exact .inr ⟨c1, l, p, j1, rfl, c, h⟩
          · exact .inl ⟨rfl, .inr (.inr ⟨l, p, j1, rfl, c⟩)⟩
      · exact .inl ⟨rfl, .inl c1⟩
theorem t_itemF (h1 : i ≤ (s.size : Int)) (hK : (K0.length : Int) ≤ i + 1) (hI : (I0.length : Int) ≤ i) (hk : 8 * ((s.size : Int) - i) + 167 ≤ k) (h : itemF (k + 1) s i false e ks K0 I0 P0 = some (K, I, P, s', j, b)) :
    ∃ T j1 b1, treeF k s i false = some (T, s, j1, b1) ∧ i ≤ j1 ∧ j1 ≤ (s.size : Int) ∧ ((b1 = true ∧ b = true) ∨ (b1 = false ∧
      ((bt s (runEnd ws s j1) = 44 ∧ loopF k s (runEnd ws s (runEnd ws s j1 + 1)) false e ks K0 (I0 ++ [T]) (P0 && T.pairs) = some (K, I, P, s', j, b)) ∨
       (bt s (runEnd ws s j1) ≠ 44 ∧ bt s (runEnd ws s j1) = e ∧ b = false ∧ j = runEnd ws s j1 + 1) ∨
       (bt s (runEnd ws s j1) ≠ 44 ∧ bt s (runEnd ws s j1) ≠ e ∧ b = true)))) := by
  have hs' : (s.size : Int) ≤ 2147483647 := by omega
  obtain ⟨T, j1, b1, e1, j2, j3, _⟩ := (all_read hs k).1 i false h0 h1 (by omega)
  have hb1 := runEnd_le (p := ws) (s := s) (i := j1) j3
  refine ⟨T, j1, b1, e1, j2, j3, ?_⟩
  cases b1 with
  | true =>
    left
    refine ⟨rfl, ?_⟩
    cases b with
    | true => rfl
    | false =>
      obtain ⟨T', j1', e2, _⟩ := item_inv hs h0 h1 he hK hI hk h
      have e3 := e1.symm.trans e2
      simp at e3
  | false =>
    right
    refine ⟨rfl, ?_⟩
    rw [itemF, if_pos (show I0.length < 1000000 by omega), e1] at h
    simp only [Option.bind_some] at h
    rw [blank_eq hs' (by omega) false (by omega)] at h
    simp only [Option.bind_some] at h
    rw [next_eq (by omega)] at h
    simp only [Option.bind_some] at h
    by_cases c : bt s (runEnd ws s j1) = 44
    · have hlt := lt_of_bt (s := s) (i := runEnd ws s j1) (by omega)
      rw [if_pos c, w64 (n := runEnd ws s j1 + 1) (by omega), blank_eq hs' (by omega) false (by omega)] at h
      exact .inl ⟨c, h⟩
    · rw [if_neg c, take_eq (by omega) hs' _ _ he] at h
      by_cases c2 : bt s (runEnd ws s j1) = e
      · rw [if_pos c2] at h
        simp only [Option.bind_some, Option.some.injEq, Prod.mk.injEq] at h
        exact .inr (.inl ⟨c, c2, h.2.2.2.2.2.symm, h.2.2.2.2.1.symm⟩)
      · rw [if_neg c2] at h
        simp only [Option.bind_some, Option.some.injEq, Prod.mk.injEq] at h
        exact .inr (.inr ⟨c, c2, h.2.2.2.2.2.symm⟩)
end
end Go.Proofs.YtldfejbmdonaoaaGreatDoor.Vt