/- Joined by a program of mine from texts of this claim: Ti. -/
import Derived.Test.YtldfejbmdonaoaaDoorV38
namespace Go.Proofs.YtldfejbmdonaoaaDoor.Ti
open Go.RowKit YtldfejbmdonaoaaDoorW.PrintWords YtldfejbmdonaoaaDoorW.PrintLast YtldfejbmdonaoaaDoorW.PrintMore Tw Tf Tp Te Tg Sp
set_option linter.unusedVariables false
set_option linter.unusedSimpArgs false
theorem fin_inv {kind : Int} {str : ByteArray} {P : Bool} {K : List ByteArray} {I : List JT} {i0 i j : Int} {s s' : ByteArray} {b : Bool} {T : JT} (h : finF kind str P K I i0 s i b = some (T, s', j, false)) :
    b = false ∧ j = i ∧ s' = s ∧ T = .mk kind (s.extract i0.toNat i.toNat) i0 str P K I := by
  unfold finF at h
  cases b with
  | true => simp at h
  | false =>
    rw [if_neg (by decide)] at h
    split at h
    · split at h
      · split at h
        · simp only [Option.some.injEq, Prod.mk.injEq] at h
          obtain ⟨rfl, rfl, rfl, _⟩ := h
          exact ⟨rfl, rfl, rfl, rfl⟩
        · exact absurd h (by simp)
      · exact absurd h (by simp)
    · exact absurd h (by simp)
inductive TreeIs (s : ByteArray) (k : Nat) (i j : Int) : JT → Prop where
  | str (l : List Int) (p : Bool) (h : bt s i = 34) (hr : strR s (i + 1) = some (l, p, j)) : TreeIs s k i j (.mk 3 (s.extract i.toNat j.toNat) i (strOfNums l) p [] [])
  | word (kind : Int) (x : ByteArray) (hx : kind = 4 ∧ x = (⟨#[116, 114, 117, 101]⟩ : ByteArray) ∨ kind = 1 ∧ x = (⟨#[102, 97, 108, 115, 101]⟩ : ByteArray) ∨ kind = 0 ∧ x = (⟨#[110, 117, 108, 108]⟩ : ByteArray)) (hw : wordAt s i x) (hj : j = i + x.size) :
      TreeIs s k i j (.mk kind (s.extract i.toNat j.toNat) i (⟨#[]⟩ : ByteArray) true [] [])
  | list (e : Int) (ks : Bool) (K : List ByteArray) (I : List JT) (P : Bool) (h : bt s i = 123 ∧ e = 125 ∧ ks = true ∨ bt s i = 91 ∧ e = 93 ∧ ks = false) (hl : listF k s i false e ks = some (K, I, P, s, j, false)) :
      TreeIs s k i j (.mk 5 (s.extract i.toNat j.toNat) i (⟨#[]⟩ : ByteArray) P K I)
  | num (h : bt s i ≠ 34 ∧ bt s i ≠ 116 ∧ bt s i ≠ 102 ∧ bt s i ≠ 110 ∧ bt s i ≠ 123 ∧ bt s i ≠ 91) (hn : numBad s i = false) (hj : j = numEnd s i) : TreeIs s k i j (.mk 2 (s.extract i.toNat j.toNat) i (⟨#[]⟩ : ByteArray) true [] [])
section
variable {s s' : ByteArray} (hs : (s.size : Int) ≤ 65536) {k : Nat} {i j : Int} (h0 : 0 ≤ i) (h1 : i ≤ (s.size : Int))
include hs h0 h1
theorem tree_inv {T : JT} (hk : 8 * ((s.size : Int) - i) + 163 ≤ k) (h : treeF (k + 1) s i false = some (T, s', j, false)) : s' = s ∧ TreeIs s k i j T := by
  have hs' : (s.size : Int) ≤ 2147483647 := by omega
  rw [treeF, next_eq h0] at h
  simp only [Option.bind_some] at h
  by_cases c1 : bt s i = 34
  · rw [if_pos c1] at h
    have ht := text_good hs' h0 h1 (k := k) (by omega) c1
    revert ht
    cases hR : strR s (i + 1) with
    | none =>
      rintro ⟨t, p, j', e, _⟩
      rw [e] at h
      exact absurd (fin_inv h).1 (by simp)
    | some r =>
      obtain ⟨l, p, j'⟩ := r
      intro e
      replace e : _ = some (strOfNums ([] ++ l), true && p, s, j', false) := e
      rw [e] at h
      obtain ⟨_, rfl, rfl, rfl⟩ := fin_inv h
      exact ⟨rfl, .str l p c1 hR⟩
  · rw [if_neg c1] at h
    have word : ∀ kind x, (kind = 4 ∧ x = (⟨#[116, 114, 117, 101]⟩ : ByteArray) ∨ kind = 1 ∧ x = (⟨#[102, 97, 108, 115, 101]⟩ : ByteArray) ∨ kind = 0 ∧ x = (⟨#[110, 117, 108, 108]⟩ : ByteArray)) →
        ((spec_reading_word.f k s i false x).bind fun t => finF kind (⟨#[]⟩ : ByteArray) true [] [] i t.1 t.2.1 t.2.2) = some (T, s', j, false) → s' = s ∧ TreeIs s k i j T := by
      intro kind x hx h
      have h3 := three x (by rcases hx with ⟨_, h⟩ | ⟨_, h⟩ | ⟨_, h⟩ <;> simp [h])
      obtain ⟨j', b', e, _, _, j3, _, _⟩ := word_eq hs' x h3.1 h3.2 h0 h1 false (k := k) (by omega)
      rw [e] at h
      obtain ⟨e1, rfl, rfl, rfl⟩ := fin_inv h
      exact ⟨rfl, .word kind x hx (j3 e1).2 (j3 e1).1⟩
    by_cases c2 : bt s i = 116
    · rw [if_pos c2] at h; exact word _ _ (.inl ⟨rfl, rfl⟩) h
    rw [if_neg c2] at h
    by_cases c3 : bt s i = 102
    · rw [if_pos c3] at h; exact word _ _ (.inr (.inl ⟨rfl, rfl⟩)) h
    rw [if_neg c3] at h
    by_cases c4 : bt s i = 110
    · rw [if_pos c4] at h; exact word _ _ (.inr (.inr ⟨rfl, rfl⟩)) h
    rw [if_neg c4] at h
    have list : ∀ e ks, (bt s i = 123 ∧ e = 125 ∧ ks = true ∨ bt s i = 91 ∧ e = 93 ∧ ks = false) → ((listF k s i false e ks).bind fun t => finF 5 (⟨#[]⟩ : ByteArray) t.2.2.1 t.1 t.2.1 i t.2.2.2.1 t.2.2.2.2.1 t.2.2.2.2.2) = some (T, s', j, false) → s' = s ∧ TreeIs s k i j T := by
      intro e ks he h
      have hlt := lt_of_bt (s := s) (i := i) (by omega)
      obtain ⟨K, I, P, j', b', e1, _, _, _⟩ := (all_read hs k).2.1 i false e ks h0 (by omega) (by omega) (by omega)
      rw [e1] at h
      obtain ⟨e2, e3, rfl, rfl⟩ := fin_inv h
      replace e3 : j = j' := e3
      replace e2 : b' = false := e2
      subst e3 e2
      exact ⟨rfl, .list e ks K I P he e1⟩
    by_cases c5 : bt s i = 123
    · rw [if_pos c5] at h; exact list _ _ (.inl ⟨c5, rfl, rfl⟩) h
    rw [if_neg c5] at h
    by_cases c6 : bt s i = 91
    · rw [if_pos c6] at h; exact list _ _ (.inr ⟨c6, rfl, rfl⟩) h
    rw [if_neg c6, number_eq hs' h0 h1 false (by omega)] at h
    obtain ⟨e1, rfl, rfl, rfl⟩ := fin_inv h
    exact ⟨rfl, .num ⟨c1, c2, c3, c4, c5, c6⟩ (by simpa using e1) rfl⟩
omit h1 in
theorem list_inv {e : Int} {ks : Bool} {K : List ByteArray} {I : List JT} {P : Bool} (h1 : i + 1 ≤ (s.size : Int)) (he : e ≠ 0) (hk : 8 * ((s.size : Int) - (i + 1)) + 169 ≤ k) (h : listF (k + 1) s i false e ks = some (K, I, P, s', j, false)) :
    s' = s ∧ ((bt s (runEnd ws s (i + 1)) = e ∧ j = runEnd ws s (i + 1) + 1 ∧ K = [] ∧ I = [] ∧ P = true) ∨ (bt s (runEnd ws s (i + 1)) ≠ e ∧ loopF k s (runEnd ws s (i + 1)) false e ks [] [] true = some (K, I, P, s', j, false))) := by
  have hs' : (s.size : Int) ≤ 2147483647 := by omega
  have hb := runEnd_le (p := ws) (s := s) (i := i + 1) h1
  rw [listF, w64 (n := i + 1) (by omega), blank_eq hs' (by omega) false (by omega)] at h
  simp only [Option.bind_some] at h
  rw [next_eq (by omega)] at h
  simp only [Option.bind_some] at h
  by_cases c : bt s (runEnd ws s (i + 1)) = e
  · have hlt := lt_of_bt (s := s) (i := runEnd ws s (i + 1)) (by rw [c]; exact he)
    rw [if_pos c, w64 (n := runEnd ws s (i + 1) + 1) (by omega)] at h
    simp only [Option.some.injEq, Prod.mk.injEq] at h
    obtain ⟨rfl, rfl, rfl, rfl, rfl, _⟩ := h
    exact ⟨rfl, .inl ⟨c, rfl, rfl, rfl, rfl⟩⟩
  · rw [if_neg c] at h
    obtain ⟨K', I', P', j', b', e1, _, _, _⟩ := (all_read hs k).2.2.1 (runEnd ws s (i + 1)) false e ks [] [] true (by omega) hb.2 he (by simp; omega) (by simp; omega) (by omega)
    have e2 := e1.symm.trans h
    simp only [Option.some.injEq, Prod.mk.injEq] at e2
    exact ⟨e2.2.2.2.1.symm, .inr ⟨c, h⟩⟩
theorem loop_inv {e : Int} {ks : Bool} {K0 K : List ByteArray} {I0 I : List JT} {P0 P : Bool} (he : e ≠ 0) (hK : (K0.length : Int) ≤ i) (hI : (I0.length : Int) ≤ i) (hk : 8 * ((s.size : Int) - i) + 168 ≤ k) (h : loopF (k + 1) s i false e ks K0 I0 P0 = some (K, I, P, s', j, false)) :
    (ks = false ∧ itemF k s i false e ks K0 I0 P0 = some (K, I, P, s', j, false)) ∨
    (ks = true ∧ bt s i = 34 ∧ ∃ l p j1, strR s (i + 1) = some (l, p, j1) ∧ bt s (runEnd ws s j1) = 58 ∧ itemF k s (runEnd ws s (runEnd ws s j1 + 1)) false e ks (K0 ++ [strOfNums l]) I0 (P0 && p) = some (K, I, P, s', j, false)) := by
  have hs' : (s.size : Int) ≤ 2147483647 := by omega
  rw [loopF, if_neg (by decide), if_pos (show K0.length < 1000000 by omega)] at h
  cases ks with
  | false =>
    rw [if_neg (by decide)] at h
    exact .inl ⟨rfl, h⟩
  | true =>
    rw [if_pos rfl] at h
    have bad : ∀ (t : ByteArray) (i2 : Int) (P2 : Bool), i ≤ i2 → i2 ≤ (s.size : Int) → ((spec_reading_blank.f k s i2 true).bind fun q3 => itemF k q3.1 q3.2.1 q3.2.2 e true (K0 ++ [t]) I0 P2) ≠ some (K, I, P, s', j, false) := by
      intro t i2 P2 h2 h3 h4
      have hb2 := runEnd_le (p := ws) (s := s) (i := i2) h3
      rw [blank_eq hs' (by omega) true (by omega)] at h4
      obtain ⟨K', I', P', j', b', e1, _, _, j3⟩ := (all_read hs k).2.2.2 (runEnd ws s i2) true e true (K0 ++ [t]) I0 P2 (by omega) hb2.2 he (by rw [List.length_append]; simp; omega) (by omega) (by omega)
      have e2 := e1.symm.trans h4
      simp only [Option.some.injEq, Prod.mk.injEq] at e2
      rw [j3 rfl] at e2
      exact absurd e2.2.2.2.2.2 (by decide)
    have bad2 : ∀ (t : ByteArray) (p : Bool) (i1 : Int), i ≤ i1 → i1 ≤ (s.size : Int) → ((spec_reading_blank.f k s i1 true).bind fun q1 => (spec_reading_take.f q1.1 q1.2.1 q1.2.2 58).bind fun q2 => (spec_reading_blank.f k q2.1 q2.2.1 q2.2.2).bind fun q3 => itemF k q3.1 q3.2.1 q3.2.2 e true (K0 ++ [t]) I0 (P0 && p)) ≠ some (K, I, P, s', j, false) := by
      intro t p i1 h2 h3 h4
      have hb2 := runEnd_le (p := ws) (s := s) (i := i1) h3
      rw [blank_eq hs' (by omega) true (by omega)] at h4
      simp only [Option.bind_some] at h4
      rw [take_eq (by omega) hs' _ _ (by decide)] at h4
      by_cases c : bt s (runEnd ws s i1) = 58
      · have hlt := lt_of_bt (s := s) (i := runEnd ws s i1) (by omega)
        rw [if_pos c] at h4
        exact bad t (runEnd ws s i1 + 1) _ (by omega) (by omega) h4
      · rw [if_neg c] at h4
        exact bad t (runEnd ws s i1) _ (by omega) (by omega) h4
    by_cases c1 : bt s i = 34
    · have ht := text_good hs' h0 h1 (k := k) (by omega) c1
      revert ht
      cases hR : strR s (i + 1) with
      | none =>
        rintro ⟨t, p, j', e1, j1, j2⟩
        rw [e1] at h
        exact absurd h (bad2 t p j' (by omega) j2)
      | some r =>
        obtain ⟨l, p, j1⟩ := r
        have hj := strR_le _ _ hR
        have hb1 := runEnd_le (p := ws) (s := s) (i := j1) hj.2
        intro e1
        replace e1 : _ = some (strOfNums ([] ++ l), true && p, s, j1, false) := e1
        rw [e1] at h
        simp only [Option.bind_some] at h
        rw [blank_eq hs' (by omega) false (by omega)] at h
        simp only [Option.bind_some] at h
        rw [take_eq (by omega) hs' _ _ (by decide)] at h
        by_cases c : bt s (runEnd ws s j1) = 58
        · have hlt := lt_of_bt (s := s) (i := runEnd ws s j1) (by omega)
          rw [if_pos c] at h
          simp only [Option.bind_some] at h
          rw [blank_eq hs' (by omega) false (by omega)] at h
          exact .inr ⟨rfl, c1, l, p, j1, rfl, c, h⟩
        · rw [if_neg c] at h
          exact absurd h (bad _ (runEnd ws s j1) _ (by omega) hb1.2)
    · rw [text_none hs' h0 (by omega) c1] at h
      exact absurd h (bad2 _ _ i (by omega) h1)
theorem item_inv {e : Int} {ks : Bool} {K0 K : List ByteArray} {I0 I : List JT} {P0 P : Bool} (he : e ≠ 0) (hK : (K0.length : Int) ≤ i + 1) (hI : (I0.length : Int) ≤ i) (hk : 8 * ((s.size : Int) - i) + 167 ≤ k) (h : itemF (k + 1) s i false e ks K0 I0 P0 = some (K, I, P, s', j, false)) :
    ∃ T j1, treeF k s i false = some (T, s, j1, false) ∧ i ≤ j1 ∧ j1 ≤ (s.size : Int) ∧
      ((bt s (runEnd ws s j1) = 44 ∧ loopF k s (runEnd ws s (runEnd ws s j1 + 1)) false e ks K0 (I0 ++ [T]) (P0 && T.pairs) = some (K, I, P, s', j, false)) ∨
       (bt s (runEnd ws s j1) ≠ 44 ∧ bt s (runEnd ws s j1) = e ∧ s' = s ∧ j = runEnd ws s j1 + 1 ∧ K = K0 ∧ I = I0 ++ [T] ∧ P = (P0 && T.pairs))) := by
  have hs' : (s.size : Int) ≤ 2147483647 := by omega
  rw [itemF, if_pos (show I0.length < 1000000 by omega)] at h
  obtain ⟨T, j1, b1, e1, j2, j3, _⟩ := (all_read hs k).1 i false h0 h1 (by omega)
  have hb1 := runEnd_le (p := ws) (s := s) (i := j1) j3
  rw [e1] at h
  simp only [Option.bind_some] at h
  rw [blank_eq hs' (by omega) b1 (by omega)] at h
  simp only [Option.bind_some] at h
  rw [next_eq (by omega)] at h
  simp only [Option.bind_some] at h
  by_cases c : bt s (runEnd ws s j1) = 44
  · have hlt := lt_of_bt (s := s) (i := runEnd ws s j1) (by omega)
    have hb2 := runEnd_le (p := ws) (s := s) (i := runEnd ws s j1 + 1) (by omega)
    rw [if_pos c, w64 (n := runEnd ws s j1 + 1) (by omega), blank_eq hs' (by omega) b1 (by omega)] at h
    simp only [Option.bind_some] at h
    cases b1 with
    | true =>
      obtain ⟨K', I', P', j', b', e2, _, _, j4⟩ := (all_read hs k).2.2.1 (runEnd ws s (runEnd ws s j1 + 1)) true e ks K0 (I0 ++ [T]) (P0 && T.pairs) (by omega) hb2.2 he (by omega) (by rw [List.length_append]; simp; omega) (by omega)
      have e3 := e2.symm.trans h
      simp only [Option.some.injEq, Prod.mk.injEq] at e3
      rw [j4 rfl] at e3
      exact absurd e3.2.2.2.2.2 (by decide)
    | false => exact ⟨T, j1, e1, j2, j3, .inl ⟨c, h⟩⟩
  · rw [if_neg c, take_eq (by omega) hs' _ _ he] at h
    by_cases c2 : bt s (runEnd ws s j1) = e
    · rw [if_pos c2] at h
      simp only [Option.bind_some, Option.some.injEq, Prod.mk.injEq] at h
      obtain ⟨rfl, rfl, rfl, rfl, rfl, rfl⟩ := h
      exact ⟨T, j1, e1, j2, j3, .inr ⟨c, c2, rfl, rfl, rfl, rfl, rfl⟩⟩
    · rw [if_neg c2] at h
      simp only [Option.bind_some, Option.some.injEq, Prod.mk.injEq] at h
      exact absurd h.2.2.2.2.2 (by decide)
end
end Go.Proofs.YtldfejbmdonaoaaDoor.Ti