/- Joined by a program of mine from texts of this claim: Pl. -/
import Derived.Test.YtldfejbmdonaoaaDoorZ42
import Derived.Test.YtldfejbmdonaoaaDoorZ48
namespace Go.Proofs.YtldfejbmdonaoaaDoor.Pl
open Go.RowKit YtldfejbmdonaoaaDoorW.PrintWords YtldfejbmdonaoaaDoorW.PrintLast YtldfejbmdonaoaaDoorW.PrintMore Tw Tf Tp Te Tg Ti Tr Rd Tm Gp Gv At Pz Nx Gn Gi Sp
set_option linter.unusedVariables false
set_option linter.unusedSimpArgs false
theorem str_last {s : ByteArray} : ∀ (n : Nat) (i : Int) {l : List Int} {p : Bool} {j : Int}, textR s n i = some (l, p, j) → bt s (j - 1) = 34 := by
  intro n
  induction n with
  | zero => intro i l p j h; exact absurd h (by simp [textR])
  | succ n ih =>
    intro i l p j h
    unfold textR at h
    by_cases c1 : bt s i < 32
    · rw [if_pos c1] at h; exact absurd h (by simp)
    · rw [if_neg c1] at h
      by_cases c2 : bt s i = 34
      · rw [if_pos c2] at h
        simp only [Option.some.injEq, Prod.mk.injEq] at h
        rw [← h.2.2, show i + 1 - 1 = i by omega]
        exact c2
      · rw [if_neg c2] at h
        by_cases c3 : bt s i = 92
        · rw [if_pos c3] at h
          replace h := Option.bind_eq_some_iff.mp h
          obtain ⟨e, he, h⟩ := h
          replace h := Option.bind_eq_some_iff.mp h
          obtain ⟨r, hr, h⟩ := h
          have h2 := ih e.2.2 (l := r.1) (p := r.2.1) (j := r.2.2) hr
          simp only [Option.some.injEq, Prod.mk.injEq] at h
          rw [← h.2.2]
          exact h2
        · rw [if_neg c3] at h
          replace h := Option.bind_eq_some_iff.mp h
          obtain ⟨r, hr, h⟩ := h
          have h2 := ih (i + 1) (l := r.1) (p := r.2.1) (j := r.2.2) hr
          simp only [Option.some.injEq, Prod.mk.injEq] at h
          rw [← h.2.2]
          exact h2
theorem lasts {s : ByteArray} (hs : (s.size : Int) ≤ 65536) {e : Int} (he : e ≠ 0) {ks : Bool} : ∀ k : Nat,
    (∀ (i j : Int) (K0 K : List ByteArray) (I0 I : List JT) (P0 P : Bool) (s' : ByteArray), 0 ≤ i → i ≤ (s.size : Int) → (K0.length : Int) ≤ i → (I0.length : Int) ≤ i → 8 * ((s.size : Int) - i) + 168 ≤ k →
      loopF (k + 1) s i false e ks K0 I0 P0 = some (K, I, P, s', j, false) → bt s (j - 1) = e) ∧
    (∀ (i j : Int) (K0 K : List ByteArray) (I0 I : List JT) (P0 P : Bool) (s' : ByteArray), 0 ≤ i → i ≤ (s.size : Int) → (K0.length : Int) ≤ i + 1 → (I0.length : Int) ≤ i → 8 * ((s.size : Int) - i) + 167 ≤ k →
      itemF (k + 1) s i false e ks K0 I0 P0 = some (K, I, P, s', j, false) → bt s (j - 1) = e) := by
  intro k
  induction k with
  | zero => exact ⟨fun _ _ _ _ _ _ _ _ _ _ _ _ _ h => absurd h (by omega), fun _ _ _ _ _ _ _ _ _ _ _ _ _ h => absurd h (by omega)⟩
  | succ k ih =>
    constructor
    · intro i j K0 K I0 I P0 P s' h0 h1 hK hI hk h
      rcases loop_inv hs h0 h1 he hK hI hk h with ⟨_, h2⟩ | ⟨_, _, l, p, j1, hR, hc, h2⟩
      · exact ih.2 i j K0 K I0 I P0 P s' h0 h1 (by omega) hI (by omega) h2
      · have h3 := strR_le _ _ hR
        have h4 := runEnd_le (p := ws) (s := s) (i := j1) h3.2
        have h5 := lt_of_bt (s := s) (i := runEnd ws s j1) (by omega)
        have h6 := runEnd_le (p := ws) (s := s) (i := runEnd ws s j1 + 1) (by omega)
        exact ih.2 _ j _ K I0 I _ P s' (by omega) h6.2 (by rw [List.length_append]; simp; omega) (by omega) (by omega) h2
    · intro i j K0 K I0 I P0 P s' h0 h1 hK hI hk h
      obtain ⟨T, j1, _, h2, h3, h4⟩ := item_inv hs h0 h1 he hK hI hk h
      have h5 := runEnd_le (p := ws) (s := s) (i := j1) h3
      rcases h4 with ⟨hc, h4⟩ | ⟨_, hc, _, rfl, _⟩
      · have h6 := lt_of_bt (s := s) (i := runEnd ws s j1) (by omega)
        have h7 := runEnd_le (p := ws) (s := s) (i := runEnd ws s j1 + 1) (by omega)
        exact ih.1 _ j K0 K _ I _ P s' (by omega) h7.2 (by omega) (by rw [List.length_append]; simp; omega) (by omega) h4
      · rw [show runEnd ws s j1 + 1 - 1 = runEnd ws s j1 by omega]
        exact hc
theorem list_last {s : ByteArray} (hs : (s.size : Int) ≤ 65536) {e : Int} (he : e ≠ 0) {ks : Bool} {k : Nat} {i j : Int} {K : List ByteArray} {I : List JT} {P : Bool} {s' : ByteArray} (h0 : 0 ≤ i) (h1 : i + 1 ≤ (s.size : Int)) (hk : 8 * ((s.size : Int) - (i + 1)) + 170 ≤ k) (h : listF (k + 1) s i false e ks = some (K, I, P, s', j, false)) :
    bt s (j - 1) = e := by
  obtain ⟨_, h2⟩ := list_inv hs h0 h1 he (by omega) h
  rcases h2 with ⟨hc, rfl, _⟩ | ⟨_, h2⟩
  · rw [show runEnd ws s (i + 1) + 1 - 1 = runEnd ws s (i + 1) by omega]
    exact hc
  · have h3 := runEnd_le (p := ws) (s := s) (i := i + 1) h1
    obtain ⟨k, rfl⟩ : ∃ k', k = k' + 1 := ⟨k - 1, by omega⟩
    exact (lasts hs he k).1 _ j [] K [] I true P s' (by omega) h3.2 (by simp; omega) (by simp; omega) (by omega) h2
structure Good (s : ByteArray) (i0 j : Int) (T : JT) : Prop where
  lead : Lead s i0
  place : T.place = i0
  raw : T.raw = s.extract i0.toNat j.toNat
  lo : i0 + 1 ≤ j
  hi : j ≤ (s.size : Int)
  last : ws (bt s (j - 1)) = false
  rest : ∀ x, j ≤ x → x < (s.size : Int) → ws (bt s x) = true
  is : T.kind = 3 ∧ bt s i0 = 34 ∧ (∃ l p, strR s (i0 + 1) = some (l, p, j)) ∨ ∃ n, Shape s i0 T.kind n ∧ (n = j ∨ n = (s.size : Int))
theorem ws_cases {c : Int} (h : ws c = true) : 0 ≤ c ∧ c ≤ 32 := by
  rcases ws_iff.mp h with h | h | h | h <;> omega
theorem good_of {s : ByteArray} (hs : (s.size : Int) ≤ 65536) {k : Nat} (hk : 600000 ≤ k) {j : Int} {T : JT} {s' : ByteArray} (ht : treeF (k + 1) s (runEnd ws s 0) false = some (T, s', j, false)) (hj : runEnd ws s j = (s.size : Int)) (hj2 : j ≤ (s.size : Int)) : Good s (runEnd ws s 0) j T := by
  have hb := runEnd_le (p := ws) (s := s) (i := 0) (by omega)
  have hbl : ∀ q, 0 ≤ q → q < runEnd ws s 0 → bt s q ≤ 32 ∧ 0 ≤ bt s q := fun q h1 h2 => (ws_cases (runEnd_all h1 h2)).symm
  have hrest : ∀ x, j ≤ x → x < (s.size : Int) → ws (bt s x) = true := fun x h1 h2 => runEnd_all h1 (by omega)
  obtain ⟨_, hT⟩ := tree_inv hs hb.1 hb.2 (by omega) ht
  obtain ⟨i, hi⟩ : ∃ i, runEnd ws s 0 = i := ⟨_, rfl⟩
  rw [hi] at hT hb hbl ⊢
  clear ht hi
  have lead : i < (s.size : Int) → Lead s i := fun h => ⟨by omega, hb.1, h, hbl⟩
  cases hT with
  | str l p h hr =>
    have h1 := lt_of_bt (s := s) (i := i) (by omega)
    have h2 := strR_le _ _ hr
    refine ⟨lead h1, rfl, rfl, by omega, hj2, ?_, hrest, .inl ⟨rfl, h, l, p, hr⟩⟩
    rw [str_last _ _ hr]
    rfl
  | word kind x hx hw hjj =>
    have hz : 0 < (x.size : Int) := by rcases hx with ⟨_, rfl⟩ | ⟨_, rfl⟩ | ⟨_, rfl⟩ <;> decide
    refine ⟨lead (by omega), rfl, rfl, by omega, hj2, ?_, hrest, .inr ⟨j, ?_, .inl rfl⟩⟩
    · have h1 := hw (x.size - 1) (by omega) (by omega)
      rw [show j - 1 = i + ((x.size : Int) - 1) by omega, h1]
      rcases hx with ⟨_, rfl⟩ | ⟨_, rfl⟩ | ⟨_, rfl⟩ <;> decide
    · refine .inr (.inr ⟨?_, hj2, fun y h1 h2 => ?_, fun h => ?_⟩)
      · have h0 := hw 0 (Int.le_refl _) hz
        rw [Int.add_zero] at h0
        rcases hx with ⟨rfl, rfl⟩ | ⟨rfl, rfl⟩ | ⟨rfl, rfl⟩
        · exact .inl ⟨rfl, by rw [h0]; decide, by rw [hjj]; rfl⟩
        · exact .inr (.inl ⟨rfl, by rw [h0]; decide, by rw [hjj]; rfl⟩)
        · exact .inr (.inr ⟨rfl, by rw [h0]; decide, by rw [hjj]; rfl, by rw [hw 1 (by decide) (by decide)]; decide⟩)
      · have h3 := hw (y - i) (by omega) (by omega)
        rw [show i + (y - i) = y by omega] at h3
        rw [h3]
        obtain ⟨z, hz2⟩ : ∃ z, y - i = z := ⟨_, rfl⟩
        rw [hz2]
        rcases hx with ⟨_, rfl⟩ | ⟨_, rfl⟩ | ⟨_, rfl⟩
        · have h4 : j = i + 4 := hjj
          have : z = 1 ∨ z = 2 ∨ z = 3 := by omega
          rcases this with rfl | rfl | rfl <;> decide
        · have h4 : j = i + 5 := hjj
          have : z = 1 ∨ z = 2 ∨ z = 3 ∨ z = 4 := by omega
          rcases this with rfl | rfl | rfl | rfl <;> decide
        · have h4 : j = i + 4 := hjj
          have : z = 1 ∨ z = 2 ∨ z = 3 := by omega
          rcases this with rfl | rfl | rfl <;> decide
      · have := (ws_cases (hrest j (Int.le_refl _) h)).2
        omega
  | list e ks K I P h hl =>
    have h1 := lt_of_bt (s := s) (i := i) (by rcases h with ⟨h, _⟩ | ⟨h, _⟩ <;> omega)
    have h2 : bt s (j - 1) = e := by
      obtain ⟨k, rfl⟩ : ∃ k', k = k' + 1 := ⟨k - 1, by omega⟩
      exact list_last hs (by rcases h with ⟨_, h, _⟩ | ⟨_, h, _⟩ <;> omega) hb.1 (by omega) (by omega) hl
    have h3 : i + 1 ≤ j := by
      have h4 : 0 ≤ j - 1 ∨ j - 1 < 0 := by omega
      obtain ⟨k, rfl⟩ : ∃ k', k = k' + 1 := ⟨k - 1, by omega⟩
      obtain ⟨_, h5⟩ := list_inv hs hb.1 (by omega) (by rcases h with ⟨_, h, _⟩ | ⟨_, h, _⟩ <;> omega) (by omega) hl
      have h6 := runEnd_ge (p := ws) (s := s) (i := i + 1)
      rcases h5 with ⟨_, rfl, _⟩ | ⟨_, h5⟩
      · omega
      · have h7 := runEnd_le (p := ws) (s := s) (i := i + 1) (by omega)
        obtain ⟨K', I', P', j', b', e2, j3, _⟩ := (all_read hs k).2.2.1 (runEnd ws s (i + 1)) false e ks [] [] true (by omega) h7.2 (by rcases h with ⟨_, h, _⟩ | ⟨_, h, _⟩ <;> omega) (by simp; omega) (by simp; omega) (by omega)
        have e3 := e2.symm.trans h5
        simp only [Option.some.injEq, Prod.mk.injEq] at e3
        omega
    refine ⟨lead h1, rfl, rfl, h3, hj2, ?_, hrest, .inr ⟨s.size, .inl ⟨rfl, ?_, rfl⟩, .inr rfl⟩⟩
    · rw [h2]
      rcases h with ⟨_, rfl, _⟩ | ⟨_, rfl, _⟩ <;> decide
    · rcases h with ⟨h, _⟩ | ⟨h, _⟩
      · exact .inl h
      · exact .inr h
  | num h hn hjj =>
    have h1 := num_gt hn
    have h2 := nSign_le (s := s) (i := i) hb.2
    have h3 := num_bytes (s := s) (i := i) (x := j - 1) (by omega) (by omega)
    refine ⟨lead (by omega), rfl, rfl, by omega, hj2, ?_, hrest, .inr ⟨j, .inr (.inl ⟨rfl, hn, hjj, fun h4 => .inl (ws_cases (hrest j (Int.le_refl _) h4)).2⟩), .inl rfl⟩⟩
    cases h4 : ws (bt s (j - 1)) with
    | false => rfl
    | true =>
      have h5 := ws_iff.mp h4
      unfold numc at h3
      omega
theorem impl_good (s : ByteArray) (i0 j : Int) (T : JT) (h : Good s i0 j T) (w : World) (hT : Tabs w w.heap.size) (hV : ErrVars w w.heap.size) :
    Calls Tryd.prog 8 #[.string s] w fun e w' => ∃ (k : Int) (a b : ByteArray) (c : Nat) (d : Int), e = .returned (.agg #[.int .i64 k, .string a, .string b, .float .f64 c, .int .i64 d, .bool true]) ∧ (k = T.kind ∧ (∃ n, j ≤ n ∧ n ≤ (s.size : Int) ∧ a = s.extract i0.toNat n.toNat) ∧ d = T.place) ∧ Below w.heap.size w w' := by
  rcases h.is with ⟨hk, hq, l, p, hR⟩ | ⟨n, hn, hnj⟩
  · refine (impl_str s h.lead.size i0 h.lead.lo h.lead.blank hq hR w).mono ?_
    rintro e w' ⟨k, a, b, c, d, rfl, ⟨rfl, rfl, _, _, rfl⟩, hb⟩
    exact ⟨_, _, _, _, _, rfl, ⟨hk.symm, ⟨j, Int.le_refl _, h.hi, rfl⟩, h.place.symm⟩, hb⟩
  · refine (impl_other s i0 T.kind n h.lead hn w hT hV).mono ?_
    rintro e w' ⟨k, a, b, c, d, rfl, ⟨rfl, rfl, rfl⟩, hb⟩
    have := h.hi
    exact ⟨_, _, _, _, _, rfl, ⟨rfl, ⟨n, by omega, by omega, rfl⟩, h.place.symm⟩, hb⟩
theorem trim_good (s : ByteArray) (i0 j : Int) (T : JT) (h : Good s i0 j T) (n : Int) (h1 : j ≤ n) (h2 : n ≤ (s.size : Int)) (w : World) :
    Calls Tryd.prog 9 #[.string (s.extract i0.toNat n.toNat)] w fun e w' => e = .returned (.string T.raw) ∧ ∃ n, w' = w.drewN n := by
  have h3 := h.lead.lo
  have h4 := h.lo
  have h5 := h.lead.size
  have hb : ∀ x : Int, 0 ≤ x → x < n - i0 → bt (s.extract i0.toNat n.toNat) x = bt s (i0 + x) := fun x g1 g2 => by
    obtain ⟨a, rfl⟩ : ∃ a : Nat, i0 = a := ⟨i0.toNat, by omega⟩
    obtain ⟨b, rfl⟩ : ∃ b : Nat, n = b := ⟨n.toNat, by omega⟩
    obtain ⟨x, rfl⟩ : ∃ y : Nat, x = y := ⟨x.toNat, by omega⟩
    rw [Int.toNat_natCast, Int.toNat_natCast]
    rw [Bt.bt_extract (by omega) (by omega)]
    rfl
  have hz : (s.extract i0.toNat n.toNat).size = (n - i0).toNat := by rw [ByteArray.size_extract]; omega
  refine (trimmed_walk (s.extract i0.toNat n.toNat) (j - i0).toNat w (by omega) (by omega) (fun x g1 g2 => ?_) (fun g => ?_)).mono ?_
  · rw [hb x (by omega) (by omega)]
    exact h.rest _ (by omega) (by omega)
  · rw [hb _ (by omega) (by omega), show i0 + (((j - i0).toNat : Int) - 1) = j - 1 by omega]
    exact h.last
  · rintro e w' ⟨rfl, m, rfl⟩
    refine ⟨?_, m, rfl⟩
    rw [h.raw, ByteArray.extract_extract]
    congr 3
    omega
set_option maxRecDepth 100000 in
set_option maxHeartbeats 8000000 in
theorem parse_law (s : ByteArray) (w : World) (hs : s.size ≤ 140737488351232) (hT : Tabs w w.heap.size) (hV : ErrVars w w.heap.size) :
    Calls Tryd.prog 3 #[.string s] w fun e w' => e = .returned (.bool true) ∧ Below w.heap.size w w' := by
  by_cases c1 : (2147483647 : Int) < (s.size : Int)
  · clear hT hV
    go_enter Tryd.func3, Tryd.ntmps3
    go_wp2_with fail
    go_ret
    exact ⟨rfl, Below.refl _ _⟩
  by_cases c3 : 65536 < (s.size : Int)
  · clear hT hV
    go_enter Tryd.func3, Tryd.ntmps3
    go_wp2_with fail
    refine (read_long s _ c3).mono ?_
    rintro e w1 ⟨rfl, hb⟩
    go_wp2_with fail
    go_ret
    exact ⟨rfl, below_alloc hb _⟩
  obtain ⟨k, hk⟩ : ∃ k : Nat, 700000 ≤ k := ⟨700000, Nat.le_refl _⟩
  obtain ⟨T, ok, hread, j, b, ht, j1, j2, hok⟩ := read_is (s := s) (by omega) (k := k + 1) (by omega)
  have HR := Aside0.mk hread
  have HT := Aside0.mk hT
  have HV := Aside0.mk hV
  clear hread hT hV
  cases ok with
  | false =>
    clear hok ht j1 j2 hk HT HV
    go_enter Tryd.func3, Tryd.ntmps3
    go_wp2_with fail
    refine (read_any (k + 1) s T false _ (by omega) HR.out).mono ?_
    rintro e w1 ⟨kv, iv, rfl, hTA, hb⟩
    obtain ⟨A5, n5, c5, A6, n6, c6, rfl, rfl⟩ : ∃ A5 n5 c5 A6 n6 c6, kv = .slice A5 n5 c5 ∧ iv = .slice A6 n6 c6 := Tl.tree_slices hTA
    clear hTA HR
    go_wp2_with fail
    go_ret
    exact ⟨rfl, below_alloc hb _⟩
  | true =>
    have hb0 : b = false := by
      cases b with
      | true => simp at hok
      | false => rfl
    subst hb0
    have HG := Aside0.mk (good_of (by omega) (by omega) ht (by simpa using hok) j2)
    clear hok ht j1 j2 hk
    go_enter Tryd.func3, Tryd.ntmps3
    go_wp2_with fail
    refine (read_any (k + 1) s T true _ (by omega) HR.out).mono ?_
    rintro e w1 ⟨kv, iv, rfl, hTA, hb⟩
    obtain ⟨A5, n5, c5, A6, n6, c6, rfl, rfl⟩ : ∃ A5 n5 c5 A6 n6 c6, kv = .slice A5 n5 c5 ∧ iv = .slice A6 n6 c6 := Tl.tree_slices hTA
    have HB := Aside0.mk hb
    clear hTA HR hb
    go_wp2_with fail
    refine (impl_good s _ j T HG.out _ ((HT.out.below (below_alloc HB.out _)).mono (by simp; have := HB.out.size; omega)) ((HV.out.below (below_alloc HB.out _)).mono (by simp; have := HB.out.size; omega))).mono ?_
    rintro e w2 ⟨pk, pa, pb, pc, pd, rfl, ⟨rfl, ⟨n, n1, n2, rfl⟩, rfl⟩, hb2⟩
    have HB2 := Aside0.mk (below_then (below_alloc HB.out _) (by simp; have := HB.out.size; omega) hb2)
    have HX := Aside0.mk (blk_below (heap_alloc_new w1 (.cells #[.int .i64 T.kind, .string T.raw, .int .i64 T.place, .string T.str, .bool T.pairs, .slice A5 n5 c5, .slice A6 n6 c6] 25)) hb2)
    have HTR := Aside0.mk (fun W => trim_good s _ j T HG.out n n1 n2 W)
    clear hb2 HT HV HB HG n1 n2 c1 c3 hs
    obtain ⟨A, hA⟩ : ∃ A, s.extract (runEnd ws s 0).toNat n.toNat = A := ⟨_, rfl⟩
    rw [hA] at HTR ⊢
    clear hA
    go_wp2_with fail
    have hq := heap_alloc_new w2 (.cells #[.int .i64 T.kind, .string A, .string pb, .float .f64 pc, .int .i64 T.place, .bool true] 30)
    have hp := blk_alloc HX.out (.cells #[.int .i64 T.kind, .string A, .string pb, .float .f64 pc, .int .i64 T.place, .bool true] 30)
    have HB3 := Aside0.mk (below_alloc HB2.out (.cells #[.int .i64 T.kind, .string A, .string pb, .float .f64 pc, .int .i64 T.place, .bool true] 30))
    obtain ⟨W, hW⟩ : ∃ W, w2.alloc (.cells #[.int .i64 T.kind, .string A, .string pb, .float .f64 pc, .int .i64 T.place, .bool true] 30) = W := ⟨_, rfl⟩
    rw [hW] at hq hp HB3 ⊢
    have q0 := (blk_cell hq 0).trans (rfl : _ = some (Value.int .i64 T.kind))
    have q1 := (blk_cell hq 1).trans (rfl : _ = some (Value.string A))
    have q4 := (blk_cell hq 4).trans (rfl : _ = some (Value.int .i64 T.place))
    have q5 := (blk_cell hq 5).trans (rfl : _ = some (Value.bool true))
    have p0 := (blk_cell hp 0).trans (rfl : _ = some (Value.int .i64 T.kind))
    have p1 := (blk_cell hp 1).trans (rfl : _ = some (Value.string T.raw))
    have p2 := (blk_cell hp 2).trans (rfl : _ = some (Value.int .i64 T.place))
    clear hq hp hW HB2 HX
    obtain ⟨x0, hx0⟩ : ∃ x, w1.heap.size = x := ⟨_, rfl⟩
    obtain ⟨x1, hx1⟩ : ∃ x, w2.heap.size = x := ⟨_, rfl⟩
    rw [hx0] at p0 p1 p2
    rw [hx1] at q0 q1 q4 q5
    rw [hx0, hx1]
    clear hx0 hx1
    rcases Bool.eq_false_or_eq_true (T.place == 0) with c0 | c0
    all_goals
      go_quiet ((go_at_call 9; exact Calls.quiet_of (v := .string T.raw) (HTR.out _)))
      go_wp2
      go_ret
      exact ⟨rfl, pw_below_drewN HB3.out _⟩
end Go.Proofs.YtldfejbmdonaoaaDoor.Pl