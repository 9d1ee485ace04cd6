/- Joined by a program of mine from texts of this claim: Rd, Tm, Gd. -/
import Derived.Test.YtldfejbmdonaoaaDoorV37
import Derived.Test.YtldfejbmdonaoaaDoorV39
import Derived.Test.YtldfejbmdonaoaaDoorV14
import Derived.Test.YtldfejbmdonaoaaDoorV34
namespace Go.Proofs.YtldfejbmdonaoaaDoor.Rd
open Go.RowKit YtldfejbmdonaoaaDoorW.PrintWords YtldfejbmdonaoaaDoorW.PrintLast YtldfejbmdonaoaaDoorW.PrintMore Tw Tf Tp Te Tg Ti Tr Sp
set_option linter.unusedVariables false
set_option linter.unusedSimpArgs false
theorem read_is {s : ByteArray} (hs : (s.size : Int) ≤ 65536) {k : Nat} (hk : 600000 ≤ k) : ∃ T ok, readF k s = some (T, ok) ∧
    ∃ j b, treeF k s (runEnd ws s 0) false = some (T, s, j, b) ∧ runEnd ws s 0 ≤ j ∧ j ≤ (s.size : Int) ∧ ok = (!b && runEnd ws s j == (s.size : Int)) := by
  have hs' : (s.size : Int) ≤ 2147483647 := by omega
  have hb := runEnd_le (p := ws) (s := s) (i := 0) (by omega)
  obtain ⟨T, j, b, e, j1, j2, _⟩ := (all_read hs k).1 (runEnd ws s 0) false (by omega) hb.2 (by omega)
  refine ⟨T, !b && runEnd ws s j == (s.size : Int), ?_, j, b, e, j1, j2, rfl⟩
  unfold readF
  rw [blank_eq hs' (by omega) false (by omega)]
  simp only [Option.bind_some]
  rw [e]
  simp only [Option.bind_some]
  rw [blank_eq hs' (by omega) b (by omega)]
  rfl
set_option maxRecDepth 100000 in
set_option maxHeartbeats 8000000 in
theorem read_long (s : ByteArray) (w : World) (hs : 65536 < (s.size : Int)) :
    Calls Tryd.prog 7 #[.string s] w fun e w' => e = .returned (.tuple #[.agg #[.int .i64 0, .string ⟨#[]⟩, .int .i64 0, .string ⟨#[]⟩, .bool false, .slice none 0 0, .slice none 0 0], .bool false]) ∧ Below w.heap.size w w' := by
  have hy := heap_alloc_new w (.cells #[.int .i64 0, .string ⟨#[]⟩, .int .i64 0, .string ⟨#[]⟩, .bool false, .slice none 0 0, .slice none 0 0] 25)
  have r0 := (blk_cell hy 0).trans (rfl : _ = some (Value.int .i64 0))
  have r1 := (blk_cell hy 1).trans (rfl : _ = some (Value.string ⟨#[]⟩))
  have r2 := (blk_cell hy 2).trans (rfl : _ = some (Value.int .i64 0))
  have r3 := (blk_cell hy 3).trans (rfl : _ = some (Value.string ⟨#[]⟩))
  have r4 := (blk_cell hy 4).trans (rfl : _ = some (Value.bool false))
  have r5 := (blk_cell hy 5).trans (rfl : _ = some (Value.slice none 0 0))
  have r6 := (blk_cell hy 6).trans (rfl : _ = some (Value.slice none 0 0))
  go_enter Tryd.func7, Tryd.ntmps7
  go_wp2_with fail
  refine bodyPost_ret (v := .tuple #[.agg #[.int .i64 0, .string ⟨#[]⟩, .int .i64 0, .string ⟨#[]⟩, .bool false, .slice none 0 0, .slice none 0 0], .bool false]) (by simp [results, Tryd.results7, go_sem, r0, r1, r2, r3, r4, r5, r6]) rfl ?_
  exact ⟨rfl, below_alloc (Below.refl _ _) _⟩
end Go.Proofs.YtldfejbmdonaoaaDoor.Rd
namespace Go.Proofs.YtldfejbmdonaoaaDoor.Tm
open Go.RowKit YtldfejbmdonaoaaDoorW.PrintWords YtldfejbmdonaoaaDoorW.PrintLast YtldfejbmdonaoaaDoorW.PrintMore Tp
set_option linter.unusedVariables false
set_option linter.unusedSimpArgs false
theorem ws_iff {c : Int} : ws c = true ↔ c = 32 ∨ c = 9 ∨ c = 10 ∨ c = 13 := by simp [ws, or_assoc]
end Go.Proofs.YtldfejbmdonaoaaDoor.Tm
namespace Go.Proofs.YtldfejbmdonaoaaDoor.Gd
open Go.RowKit YtldfejbmdonaoaaDoorW.PrintWords YtldfejbmdonaoaaDoorW.PrintLast YtldfejbmdonaoaaDoorW.PrintMore Tw Tf Tp Te Tg Ti Tr Rd Tm Gp Gv At Pz Nx Gn Sp
set_option linter.unusedVariables false
set_option linter.unusedSimpArgs false
theorem str_last {s : ByteArray} : ∀ (n : Nat) (i : Int) {l : List Int} {p : Bool} {j : Int}, textR s n i = some (l, p, j) → bt s (j - 1) = 34 := by
  intro n
  induction n with
  | zero => intro i l p j h; exact absurd h (by simp [textR])
  | succ n ih =>
    intro i l p j h
    unfold textR at h
    by_cases c1 : bt s i < 32
    · rw [if_pos c1] at h; exact absurd h (by simp)
    · rw [if_neg c1] at h
      by_cases c2 : bt s i = 34
      · rw [if_pos c2] at h
        simp only [Option.some.injEq, Prod.mk.injEq] at h
        rw [← h.2.2, show i + 1 - 1 = i by omega]
        exact c2
      · rw [if_neg c2] at h
        by_cases c3 : bt s i = 92
        · rw [if_pos c3] at h
          replace h := Option.bind_eq_some_iff.mp h
          obtain ⟨e, he, h⟩ := h
          replace h := Option.bind_eq_some_iff.mp h
          obtain ⟨r, hr, h⟩ := h
          have h2 := ih e.2.2 (l := r.1) (p := r.2.1) (j := r.2.2) hr
          simp only [Option.some.injEq, Prod.mk.injEq] at h
          rw [← h.2.2]
          exact h2
        · rw [if_neg c3] at h
          replace h := Option.bind_eq_some_iff.mp h
          obtain ⟨r, hr, h⟩ := h
          have h2 := ih (i + 1) (l := r.1) (p := r.2.1) (j := r.2.2) hr
          simp only [Option.some.injEq, Prod.mk.injEq] at h
          rw [← h.2.2]
          exact h2
theorem lasts {s : ByteArray} (hs : (s.size : Int) ≤ 65536) {e : Int} (he : e ≠ 0) {ks : Bool} : ∀ k : Nat,
    (∀ (i j : Int) (K0 K : List ByteArray) (I0 I : List JT) (P0 P : Bool) (s' : ByteArray), 0 ≤ i → i ≤ (s.size : Int) → (K0.length : Int) ≤ i → (I0.length : Int) ≤ i → 8 * ((s.size : Int) - i) + 168 ≤ k →
      loopF (k + 1) s i false e ks K0 I0 P0 = some (K, I, P, s', j, false) → bt s (j - 1) = e) ∧
    (∀ (i j : Int) (K0 K : List ByteArray) (I0 I : List JT) (P0 P : Bool) (s' : ByteArray), 0 ≤ i → i ≤ (s.size : Int) → (K0.length : Int) ≤ i + 1 → (I0.length : Int) ≤ i → 8 * ((s.size : Int) - i) + 167 ≤ k →
      itemF (k + 1) s i false e ks K0 I0 P0 = some (K, I, P, s', j, false) → bt s (j - 1) = e) := by
  intro k
  induction k with
  | zero => exact ⟨fun _ _ _ _ _ _ _ _ _ _ _ _ _ h => absurd h (by omega), fun _ _ _ _ _ _ _ _ _ _ _ _ _ h => absurd h (by omega)⟩
  | succ k ih =>
    constructor
    · intro i j K0 K I0 I P0 P s' h0 h1 hK hI hk h
      rcases loop_inv hs h0 h1 he hK hI hk h with ⟨_, h2⟩ | ⟨_, _, l, p, j1, hR, hc, h2⟩
      · exact ih.2 i j K0 K I0 I P0 P s' h0 h1 (by omega) hI (by omega) h2
      · have h3 := strR_le _ _ hR
        have h4 := runEnd_le (p := ws) (s := s) (i := j1) h3.2
        have h5 := lt_of_bt (s := s) (i := runEnd ws s j1) (by omega)
        have h6 := runEnd_le (p := ws) (s := s) (i := runEnd ws s j1 + 1) (by omega)
        exact ih.2 _ j _ K I0 I _ P s' (by omega) h6.2 (by rw [List.length_append]; simp; omega) (by omega) (by omega) h2
    · intro i j K0 K I0 I P0 P s' h0 h1 hK hI hk h
      obtain ⟨T, j1, _, h2, h3, h4⟩ := item_inv hs h0 h1 he hK hI hk h
      have h5 := runEnd_le (p := ws) (s := s) (i := j1) h3
      rcases h4 with ⟨hc, h4⟩ | ⟨_, hc, _, rfl, _⟩
      · have h6 := lt_of_bt (s := s) (i := runEnd ws s j1) (by omega)
        have h7 := runEnd_le (p := ws) (s := s) (i := runEnd ws s j1 + 1) (by omega)
        exact ih.1 _ j K0 K _ I _ P s' (by omega) h7.2 (by omega) (by rw [List.length_append]; simp; omega) (by omega) h4
      · rw [show runEnd ws s j1 + 1 - 1 = runEnd ws s j1 by omega]
        exact hc
theorem list_last {s : ByteArray} (hs : (s.size : Int) ≤ 65536) {e : Int} (he : e ≠ 0) {ks : Bool} {k : Nat} {i j : Int} {K : List ByteArray} {I : List JT} {P : Bool} {s' : ByteArray} (h0 : 0 ≤ i) (h1 : i + 1 ≤ (s.size : Int)) (hk : 8 * ((s.size : Int) - (i + 1)) + 170 ≤ k) (h : listF (k + 1) s i false e ks = some (K, I, P, s', j, false)) :
    bt s (j - 1) = e := by
  obtain ⟨_, h2⟩ := list_inv hs h0 h1 he (by omega) h
  rcases h2 with ⟨hc, rfl, _⟩ | ⟨_, h2⟩
  · rw [show runEnd ws s (i + 1) + 1 - 1 = runEnd ws s (i + 1) by omega]
    exact hc
  · have h3 := runEnd_le (p := ws) (s := s) (i := i + 1) h1
    obtain ⟨k, rfl⟩ : ∃ k', k = k' + 1 := ⟨k - 1, by omega⟩
    exact (lasts hs he k).1 _ j [] K [] I true P s' (by omega) h3.2 (by simp; omega) (by simp; omega) (by omega) h2
structure Good (s : ByteArray) (i0 j : Int) (T : JT) : Prop where
  lead : Lead s i0
  place : T.place = i0
  raw : T.raw = s.extract i0.toNat j.toNat
  lo : i0 + 1 ≤ j
  hi : j ≤ (s.size : Int)
  last : ws (bt s (j - 1)) = false
  rest : ∀ x, j ≤ x → x < (s.size : Int) → ws (bt s x) = true
  is : T.kind = 3 ∧ bt s i0 = 34 ∧ (∃ l p, strR s (i0 + 1) = some (l, p, j)) ∨ ∃ n, Shape s i0 T.kind n ∧ (n = j ∨ n = (s.size : Int))
theorem ws_cases {c : Int} (h : ws c = true) : 0 ≤ c ∧ c ≤ 32 := by
  rcases ws_iff.mp h with h | h | h | h <;> omega
theorem good_of {s : ByteArray} (hs : (s.size : Int) ≤ 65536) {k : Nat} (hk : 600000 ≤ k) {j : Int} {T : JT} {s' : ByteArray} (ht : treeF (k + 1) s (runEnd ws s 0) false = some (T, s', j, false)) (hj : runEnd ws s j = (s.size : Int)) (hj2 : j ≤ (s.size : Int)) : Good s (runEnd ws s 0) j T := by
  have hb := runEnd_le (p := ws) (s := s) (i := 0) (by omega)
  have hbl : ∀ q, 0 ≤ q → q < runEnd ws s 0 → bt s q ≤ 32 ∧ 0 ≤ bt s q := fun q h1 h2 => (ws_cases (runEnd_all h1 h2)).symm
  have hrest : ∀ x, j ≤ x → x < (s.size : Int) → ws (bt s x) = true := fun x h1 h2 => runEnd_all h1 (by omega)
  obtain ⟨_, hT⟩ := tree_inv hs hb.1 hb.2 (by omega) ht
  obtain ⟨i, hi⟩ : ∃ i, runEnd ws s 0 = i := ⟨_, rfl⟩
  rw [hi] at hT hb hbl ⊢
  clear ht hi
  have lead : i < (s.size : Int) → Lead s i := fun h => ⟨by omega, hb.1, h, hbl⟩
  cases hT with
  | str l p h hr =>
    have h1 := lt_of_bt (s := s) (i := i) (by omega)
    have h2 := strR_le _ _ hr
    refine ⟨lead h1, rfl, rfl, by omega, hj2, ?_, hrest, .inl ⟨rfl, h, l, p, hr⟩⟩
    rw [str_last _ _ hr]
    rfl
  | word kind x hx hw hjj =>
    have hz : 0 < (x.size : Int) := by rcases hx with ⟨_, rfl⟩ | ⟨_, rfl⟩ | ⟨_, rfl⟩ <;> decide
    refine ⟨lead (by omega), rfl, rfl, by omega, hj2, ?_, hrest, .inr ⟨j, ?_, .inl rfl⟩⟩
    · have h1 := hw (x.size - 1) (by omega) (by omega)
      rw [show j - 1 = i + ((x.size : Int) - 1) by omega, h1]
      rcases hx with ⟨_, rfl⟩ | ⟨_, rfl⟩ | ⟨_, rfl⟩ <;> decide
    · refine .inr (.inr ⟨?_, hj2, fun y h1 h2 => ?_, fun h => ?_⟩)
      · have h0 := hw 0 (Int.le_refl _) hz
        rw [Int.add_zero] at h0
        rcases hx with ⟨rfl, rfl⟩ | ⟨rfl, rfl⟩ | ⟨rfl, rfl⟩
        · exact .inl ⟨rfl, by rw [h0]; decide, by rw [hjj]; rfl⟩
        · exact .inr (.inl ⟨rfl, by rw [h0]; decide, by rw [hjj]; rfl⟩)
        · exact .inr (.inr ⟨rfl, by rw [h0]; decide, by rw [hjj]; rfl, by rw [hw 1 (by decide) (by decide)]; decide⟩)
      · have h3 := hw (y - i) (by omega) (by omega)
        rw [show i + (y - i) = y by omega] at h3
        rw [h3]
        obtain ⟨z, hz2⟩ : ∃ z, y - i = z := ⟨_, rfl⟩
        rw [hz2]
        rcases hx with ⟨_, rfl⟩ | ⟨_, rfl⟩ | ⟨_, rfl⟩
        · have h4 : j = i + 4 := hjj
          have : z = 1 ∨ z = 2 ∨ z = 3 := by omega
          rcases this with rfl | rfl | rfl <;> decide
        · have h4 : j = i + 5 := hjj
          have : z = 1 ∨ z = 2 ∨ z = 3 ∨ z = 4 := by omega
          rcases this with rfl | rfl | rfl | rfl <;> decide
        · have h4 : j = i + 4 := hjj
          have : z = 1 ∨ z = 2 ∨ z = 3 := by omega
          rcases this with rfl | rfl | rfl <;> decide
      · have := (ws_cases (hrest j (Int.le_refl _) h)).2
        omega
  | list e ks K I P h hl =>
    have h1 := lt_of_bt (s := s) (i := i) (by rcases h with ⟨h, _⟩ | ⟨h, _⟩ <;> omega)
    have h2 : bt s (j - 1) = e := by
      obtain ⟨k, rfl⟩ : ∃ k', k = k' + 1 := ⟨k - 1, by omega⟩
      exact list_last hs (by rcases h with ⟨_, h, _⟩ | ⟨_, h, _⟩ <;> omega) hb.1 (by omega) (by omega) hl
    have h3 : i + 1 ≤ j := by
      have h4 : 0 ≤ j - 1 ∨ j - 1 < 0 := by omega
      obtain ⟨k, rfl⟩ : ∃ k', k = k' + 1 := ⟨k - 1, by omega⟩
      obtain ⟨_, h5⟩ := list_inv hs hb.1 (by omega) (by rcases h with ⟨_, h, _⟩ | ⟨_, h, _⟩ <;> omega) (by omega) hl
      have h6 := runEnd_ge (p := ws) (s := s) (i := i + 1)
      rcases h5 with ⟨_, rfl, _⟩ | ⟨_, h5⟩
      · omega
      · have h7 := runEnd_le (p := ws) (s := s) (i := i + 1) (by omega)
        obtain ⟨K', I', P', j', b', e2, j3, _⟩ := (all_read hs k).2.2.1 (runEnd ws s (i + 1)) false e ks [] [] true (by omega) h7.2 (by rcases h with ⟨_, h, _⟩ | ⟨_, h, _⟩ <;> omega) (by simp; omega) (by simp; omega) (by omega)
        have e3 := e2.symm.trans h5
        simp only [Option.some.injEq, Prod.mk.injEq] at e3
        omega
    refine ⟨lead h1, rfl, rfl, h3, hj2, ?_, hrest, .inr ⟨s.size, .inl ⟨rfl, ?_, rfl⟩, .inr rfl⟩⟩
    · rw [h2]
      rcases h with ⟨_, rfl, _⟩ | ⟨_, rfl, _⟩ <;> decide
    · rcases h with ⟨h, _⟩ | ⟨h, _⟩
      · exact .inl h
      · exact .inr h
  | num h hn hjj =>
    have h1 := num_gt hn
    have h2 := nSign_le (s := s) (i := i) hb.2
    have h3 := num_bytes (s := s) (i := i) (x := j - 1) (by omega) (by omega)
    refine ⟨lead (by omega), rfl, rfl, by omega, hj2, ?_, hrest, .inr ⟨j, .inr (.inl ⟨rfl, hn, hjj, fun h4 => .inl (ws_cases (hrest j (Int.le_refl _) h4)).2⟩), .inl rfl⟩⟩
    cases h4 : ws (bt s (j - 1)) with
    | false => rfl
    | true =>
      have h5 := ws_iff.mp h4
      unfold numc at h3
      omega
end Go.Proofs.YtldfejbmdonaoaaDoor.Gd