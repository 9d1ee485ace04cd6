/- Joined by a program of mine from texts of this claim: Tg. -/
import Derived.Test.YtldfejbmdonaoaaDoorV15
namespace Go.Proofs.YtldfejbmdonaoaaDoor.Tg
open Go.RowKit YtldfejbmdonaoaaDoorW.PrintWords YtldfejbmdonaoaaDoorW.PrintLast YtldfejbmdonaoaaDoorW.PrintMore Tw Tf Tp Te Sp
set_option linter.unusedVariables false
set_option linter.unusedSimpArgs false
def TREADS (s : ByteArray) (i : Int) (b : Bool) (r : Option (JT × ByteArray × Int × Bool)) : Prop := ∃ T j b', r = some (T, s, j, b') ∧ i ≤ j ∧ j ≤ (s.size : Int) ∧ (b = true → b' = true)
def LREADS (s : ByteArray) (i : Int) (b : Bool) (r : Option (List ByteArray × List JT × Bool × ByteArray × Int × Bool)) : Prop := ∃ K I P j b', r = some (K, I, P, s, j, b') ∧ i ≤ j ∧ j ≤ (s.size : Int) ∧ (b = true → b' = true)
theorem fin_reads {s : ByteArray} {i0 i j : Int} {b b' : Bool} (kind : Int) (str : ByteArray) (P : Bool) (K : List ByteArray) (I : List JT) (h0 : 0 ≤ i0) (h1 : i0 ≤ i) (h2 : i ≤ (s.size : Int)) (hb : b = true → b' = true) : TREADS s i0 b (finF kind str P K I i0 s i b') := by
  unfold finF
  cases b' with
  | true => exact ⟨_, _, _, rfl, h1, h2, fun _ => rfl⟩
  | false =>
    rw [if_neg (by decide), if_pos h0, if_pos h1, if_pos h2]
    exact ⟨_, _, _, rfl, h1, h2, hb⟩
theorem LREADS.mono {s : ByteArray} {i i' : Int} {b b' : Bool} {r : Option (List ByteArray × List JT × Bool × ByteArray × Int × Bool)} (h : LREADS s i b r) (h1 : i' ≤ i) (h2 : b' = true → b = true) : LREADS s i' b' r := by
  obtain ⟨K, I, P, j, c, e, j1, j2, j3⟩ := h
  exact ⟨K, I, P, j, c, e, by omega, j2, fun x => j3 (h2 x)⟩
theorem three : ∀ x : ByteArray, x = (⟨#[116, 114, 117, 101]⟩ : ByteArray) ∨ x = (⟨#[102, 97, 108, 115, 101]⟩ : ByteArray) ∨ x = (⟨#[110, 117, 108, 108]⟩ : ByteArray) → (x.size : Int) ≤ 100 ∧ ∀ q : Int, 0 ≤ q → q < (x.size : Int) → bt x q ≠ 0 := by
  intro x hx
  have h5 : x.size ≤ 5 := by rcases hx with rfl | rfl | rfl <;> decide
  refine ⟨by omega, fun q h1 h2 => ?_⟩
  have h3 : q = 0 ∨ q = 1 ∨ q = 2 ∨ q = 3 ∨ q = 4 := by omega
  rcases hx with rfl | rfl | rfl <;> rcases h3 with rfl | rfl | rfl | rfl | rfl <;> first | decide | exact absurd h2 (by decide)
section
variable {s : ByteArray} (hs : (s.size : Int) ≤ 65536)
include hs
set_option maxHeartbeats 4000000 in
theorem all_read : ∀ k : Nat,
    (∀ i b, 0 ≤ i → i ≤ (s.size : Int) → 8 * ((s.size : Int) - i) + 164 ≤ k → TREADS s i b (treeF k s i b)) ∧
    (∀ i b e ks, 0 ≤ i → i + 1 ≤ (s.size : Int) → e ≠ 0 → 8 * ((s.size : Int) - (i + 1)) + 170 ≤ k → LREADS s (i + 1) b (listF k s i b e ks)) ∧
    (∀ i b e ks K I P, 0 ≤ i → i ≤ (s.size : Int) → e ≠ 0 → (K.length : Int) ≤ i → (I.length : Int) ≤ i → 8 * ((s.size : Int) - i) + 169 ≤ k → LREADS s i b (loopF k s i b e ks K I P)) ∧
    (∀ i b e ks K I P, 0 ≤ i → i ≤ (s.size : Int) → e ≠ 0 → (K.length : Int) ≤ i + 1 → (I.length : Int) ≤ i → 8 * ((s.size : Int) - i) + 168 ≤ k → LREADS s i b (itemF k s i b e ks K I P)) := by
  intro k
  induction k with
  | zero => exact ⟨fun i b h0 h1 h => by omega, fun i b e ks h0 h1 he h => by omega, fun i b e ks K I P h0 h1 he hK hI h => by omega, fun i b e ks K I P h0 h1 he hK hI h => by omega⟩
  | succ k ih =>
    obtain ⟨ihT, ihL, ihO, ihI⟩ := ih
    have hs' : (s.size : Int) ≤ 2147483647 := by omega
    refine ⟨fun i b h0 h1 h => ?_, fun i b e ks h0 h1 he h => ?_, fun i b e ks K I P h0 h1 he hK hI h => ?_, fun i b e ks K I P h0 h1 he hK hI h => ?_⟩
    · rw [treeF, next_eq h0]
      simp only [Option.bind_some]
      by_cases c1 : bt s i = 34
      · rw [if_pos c1]
        obtain ⟨t, p, j, b', e, j1, j2, j3⟩ := text_any hs' h0 h1 b (k := k) (by omega)
        rw [e]
        exact fin_reads (j := j) _ _ _ _ _ h0 j1 j2 j3
      · rw [if_neg c1]
        have word : ∀ x : ByteArray, x = (⟨#[116, 114, 117, 101]⟩ : ByteArray) ∨ x = (⟨#[102, 97, 108, 115, 101]⟩ : ByteArray) ∨ x = (⟨#[110, 117, 108, 108]⟩ : ByteArray) → ∀ kind, TREADS s i b ((spec_reading_word.f k s i b x).bind fun t => finF kind (⟨#[]⟩ : ByteArray) true [] [] i t.1 t.2.1 t.2.2) := by
          intro x hx kind
          have h3 := three x hx
          obtain ⟨j, b', e, j1, j2, _, _, j3⟩ := word_eq hs' x h3.1 h3.2 h0 h1 b (k := k) (by omega)
          rw [e]
          exact fin_reads (j := j) _ _ _ _ _ h0 j1 j2 j3
        by_cases c2 : bt s i = 116
        · rw [if_pos c2]; exact word _ (.inl rfl) 4
        rw [if_neg c2]
        by_cases c3 : bt s i = 102
        · rw [if_pos c3]; exact word _ (.inr (.inl rfl)) 1
        rw [if_neg c3]
        by_cases c4 : bt s i = 110
        · rw [if_pos c4]; exact word _ (.inr (.inr rfl)) 0
        rw [if_neg c4]
        by_cases c5 : bt s i = 123
        · have hlt := lt_of_bt (s := s) (i := i) (by omega)
          rw [if_pos c5]
          obtain ⟨K, I, P, j, b', e, j1, j2, j3⟩ := ihL i b 125 true h0 (by omega) (by decide) (by omega)
          rw [e]
          exact fin_reads (j := j) _ _ _ _ _ h0 (by show i ≤ j; omega) j2 j3
        rw [if_neg c5]
        by_cases c6 : bt s i = 91
        · have hlt := lt_of_bt (s := s) (i := i) (by omega)
          rw [if_pos c6]
          obtain ⟨K, I, P, j, b', e, j1, j2, j3⟩ := ihL i b 93 false h0 (by omega) (by decide) (by omega)
          rw [e]
          exact fin_reads (j := j) _ _ _ _ _ h0 (by show i ≤ j; omega) j2 j3
        rw [if_neg c6, number_eq hs' h0 h1 b (by omega)]
        have := numEnd_le h1
        exact fin_reads (j := i) _ _ _ _ _ h0 this.1 this.2 (fun h => by rw [h]; rfl)
    · have hb := runEnd_le (p := ws) (s := s) (i := i + 1) h1
      rw [listF, w64 (n := i + 1) (by omega), blank_eq hs' (by omega) b (by omega)]
      simp only [Option.bind_some]
      rw [next_eq (by omega)]
      simp only [Option.bind_some]
      by_cases c : bt s (runEnd ws s (i + 1)) = e
      · have hlt := lt_of_bt (s := s) (i := runEnd ws s (i + 1)) (by rw [c]; exact he)
        rw [if_pos c, w64 (n := runEnd ws s (i + 1) + 1) (by omega)]
        exact ⟨_, _, _, _, _, rfl, by omega, by omega, fun h => h⟩
      · rw [if_neg c]
        exact (ihO _ b e ks [] [] true (by omega) hb.2 he (by simp; omega) (by simp; omega) (by omega)).mono (by omega) (fun h => h)
    · rw [loopF]
      cases b with
      | true =>
        rw [if_pos rfl, take_eq h0 hs' _ _ he]
        by_cases c : bt s i = e
        · have hlt := lt_of_bt (s := s) (i := i) (by rw [c]; exact he)
          rw [if_pos c]
          exact ⟨_, _, _, i + 1, _, rfl, by omega, by omega, fun h => h⟩
        · rw [if_neg c]
          exact ⟨_, _, _, i, _, rfl, by omega, by omega, fun h => h⟩
      | false =>
        rw [if_neg (by decide), if_pos (show K.length < 1000000 by omega)]
        cases ks with
        | false =>
          rw [if_neg (by decide)]
          exact ihI i false e false K I P h0 h1 he (by omega) hI (by omega)
        | true =>
          rw [if_pos rfl]
          obtain ⟨t, p, j, b1, e1, j1, j2, j3⟩ := text_any hs' h0 h1 false (k := k) (by omega)
          have hb1 := runEnd_le (p := ws) (s := s) (i := j) j2
          rw [e1]
          simp only [Option.bind_some]
          rw [blank_eq hs' (by omega) b1 (by omega)]
          simp only [Option.bind_some]
          rw [take_eq (by omega) hs' _ _ (by decide)]
          have go : ∀ i2 b2, j ≤ i2 → i2 ≤ (s.size : Int) → LREADS s i false ((spec_reading_blank.f k s i2 b2).bind fun q3 => itemF k q3.1 q3.2.1 q3.2.2 e true (K ++ [t]) I (P && p)) := by
            intro i2 b2 h2 h3
            have hb2 := runEnd_le (p := ws) (s := s) (i := i2) h3
            rw [blank_eq hs' (by omega) b2 (by omega)]
            exact (ihI _ b2 e true (K ++ [t]) I (P && p) (by omega) hb2.2 he (by rw [List.length_append]; simp; omega) (by omega) (by omega)).mono (by omega) (fun h => absurd h (by decide))
          by_cases c : bt s (runEnd ws s j) = 58
          · have hlt := lt_of_bt (s := s) (i := runEnd ws s j) (by omega)
            rw [if_pos c]
            exact go (runEnd ws s j + 1) b1 (by omega) (by omega)
          · rw [if_neg c]
            exact go (runEnd ws s j) true (by omega) (by omega)
    · rw [itemF, if_pos (show I.length < 1000000 by omega)]
      obtain ⟨T, j, b1, e1, j1, j2, j3⟩ := ihT i b h0 h1 (by omega)
      have hb1 := runEnd_le (p := ws) (s := s) (i := j) j2
      rw [e1]
      simp only [Option.bind_some]
      rw [blank_eq hs' (by omega) b1 (by omega)]
      simp only [Option.bind_some]
      rw [next_eq (by omega)]
      simp only [Option.bind_some]
      by_cases c : bt s (runEnd ws s j) = 44
      · have hlt := lt_of_bt (s := s) (i := runEnd ws s j) (by omega)
        have hb2 := runEnd_le (p := ws) (s := s) (i := runEnd ws s j + 1) (by omega)
        rw [if_pos c, w64 (n := runEnd ws s j + 1) (by omega), blank_eq hs' (by omega) b1 (by omega)]
        exact (ihO _ b1 e ks K (I ++ [T]) (P && T.pairs) (by omega) hb2.2 he (by omega) (by rw [List.length_append]; simp; omega) (by omega)).mono (by omega) j3
      · rw [if_neg c, take_eq (by omega) hs' _ _ he]
        by_cases c2 : bt s (runEnd ws s j) = e
        · have hlt := lt_of_bt (s := s) (i := runEnd ws s j) (by rw [c2]; exact he)
          rw [if_pos c2]
          exact ⟨_, _, _, runEnd ws s j + 1, _, rfl, by omega, by omega, j3⟩
        · rw [if_neg c2]
          exact ⟨_, _, _, runEnd ws s j, _, rfl, by omega, by omega, fun _ => rfl⟩
end
end Go.Proofs.YtldfejbmdonaoaaDoor.Tg