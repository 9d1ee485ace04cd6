/- Joined by a program of mine from texts of this claim: Sn. -/
import Derived.Test.YtldfejbmdonaoaaDoorV19
import Derived.Test.YtldfejbmdonaoaaDoorV34
import Derived.Test.YtldfejbmdonaoaaDoorV40
namespace Go.Proofs.YtldfejbmdonaoaaDoor.Sn
open Go.RowKit YtldfejbmdonaoaaDoorW.PrintWords YtldfejbmdonaoaaDoorW.PrintLast YtldfejbmdonaoaaDoorW.PrintMore Tw Tf Tp Te Tg Ti Ts Sp
set_option linter.unusedVariables false
set_option linter.unusedSimpArgs false
structure StrEnd (u : ByteArray) (x e : Int) : Prop where
  lo : 1 ≤ x
  le : x ≤ e
  lt : e < (u.size : Int)
  q0 : bt u (x - 1) = 34
  q : bt u e = 34
  odd : ∀ y, x ≤ y → y < e → bt u y = 34 → bsn u (y - 1) % 2 = 1
  even : bsn u (e - 1) % 2 = 0
theorem strEnd_of {s : ByteArray} {x : Int} {l : List Int} {p : Bool} {j : Int} (h1 : 1 ≤ x) (hq : bt s (x - 1) = 34) (h : strR s x = some (l, p, j)) : StrEnd s x (j - 1) := by
  have hle := strR_le _ _ h
  obtain ⟨a, b, c⟩ := parity _ x h h1 (by rw [bsn_stop (by rw [hq]; decide)]; rfl)
  exact ⟨h1, by omega, by omega, hq, c, a, by rw [show j - 1 - 1 = j - 2 by omega]; exact b⟩
structure In (u s : ByteArray) (o : Int) : Prop where
  lo : 0 ≤ o
  hi : o + (s.size : Int) ≤ (u.size : Int)
  at_ : ∀ p, 0 ≤ p → p < (s.size : Int) → bt u (o + p) = bt s p
section
variable {u s : ByteArray} {o : Int} (hw : In u s o)
include hw
theorem bsn_in {x : Int} (hx : 1 ≤ x) (hq : bt s (x - 1) = 34) : ∀ (n : Nat) (y : Int), (y - x + 1).toNat = n → x - 1 ≤ y → y < (s.size : Int) → bsn u (o + y) = bsn s y := by
  have hlo := hw.lo
  intro n
  induction n with
  | zero =>
    intro y hn h1 h2
    obtain rfl : y = x - 1 := by omega
    rw [bsn_stop (u := s) (by rw [hq]; decide), bsn_stop (by rw [hw.at_ _ (by omega) h2, hq]; decide)]
  | succ n ih =>
    intro y hn h1 h2
    have hb := hw.at_ y (by omega) h2
    by_cases c : bt s y = 92
    · rw [bsn_step (u := s) (by omega) c, bsn_step (by omega) (by rw [hb, c])]
      have := ih (y - 1) (by omega) (by omega) (by omega)
      rw [show o + y - 1 = o + (y - 1) by omega, this]
    · rw [bsn_stop c, bsn_stop (by rw [hb]; exact c)]
theorem StrEnd.shift {x e : Int} (h : StrEnd s x e) : StrEnd u (o + x) (o + e) := by
  have hlo := hw.lo
  have hhi := hw.hi
  have h1 := h.lo
  have h2 := h.le
  have h3 := h.lt
  refine ⟨by omega, by omega, by omega, ?_, ?_, ?_, ?_⟩
  · rw [show o + x - 1 = o + (x - 1) by omega, hw.at_ _ (by omega) (by omega)]
    exact h.q0
  · rw [hw.at_ _ (by omega) (by omega)]
    exact h.q
  · intro y h4 h5 h6
    have h7 : bt s (y - o) = 34 := by
      rw [← hw.at_ (y - o) (by omega) (by omega), show o + (y - o) = y by omega]
      exact h6
    have h8 := h.odd (y - o) (by omega) (by omega) h7
    rw [show y - 1 = o + (y - o - 1) by omega, bsn_in hw h1 h.q0 _ _ rfl (by omega) (by omega)]
    exact h8
  · rw [show o + e - 1 = o + (e - 1) by omega, bsn_in hw h1 h.q0 _ _ rfl (by omega) (by omega)]
    exact h.even
end
def vch (c : Int) : Int := if c = 34 then 2 else if c = 123 ∨ c = 40 ∨ c = 91 then 3 else if c = 125 ∨ c = 41 ∨ c = 93 then 1 else 0
inductive Run (u : ByteArray) (J : Int) : Int → Int → Prop where
  | dull {i d : Int} (h0 : 0 ≤ i) (hlt : i < (u.size : Int)) (h : vch (bt u i) = 0) (hr : Run u J (i + 1) d) : Run u J i d
  | str {i e d : Int} (h : bt u i = 34) (he : StrEnd u (i + 1) e) (hr : Run u J (e + 1) d) : Run u J i d
  | opens {i d : Int} (h0 : 0 ≤ i) (h : vch (bt u i) = 3) (hd : 1 ≤ d ∧ d ≤ 1000000) (hr : Run u J (i + 1) (d + 1)) : Run u J i d
  | closes {i d : Int} (h0 : 0 ≤ i) (h : vch (bt u i) = 1) (hd : 2 ≤ d ∧ d ≤ 1000000) (hr : Run u J (i + 1) (d - 1)) : Run u J i d
  | done {i : Int} (h0 : 0 ≤ i) (h : vch (bt u i) = 1) (hj : J = i + 1) : Run u J i 1
theorem vch_lt {u : ByteArray} {i : Int} (h : vch (bt u i) ≠ 0) : i < (u.size : Int) := lt_of_bt fun e => h (by rw [e]; rfl)
theorem Run.shift {u s : ByteArray} {o J i d : Int} (hw : In u s o) (h : Run s J i d) : Run u (o + J) (o + i) d := by
  have hlo := hw.lo
  have hhi := hw.hi
  induction h with
  | dull h0 hlt h _ ih => exact .dull (by omega) (by omega) (by rw [hw.at_ _ h0 hlt]; exact h) (by rw [show ∀ a : Int, o + a + 1 = o + (a + 1) by intro a; omega]; exact ih)
  | str h he _ ih =>
    have h1 := he.lo
    have h2 := he.le
    have h3 := he.lt
    refine .str (e := _) (by rw [hw.at_ _ (by omega) (by omega)]; exact h) (by rw [show ∀ a : Int, o + a + 1 = o + (a + 1) by intro a; omega]; exact he.shift hw) ?_
    rw [show ∀ a : Int, o + a + 1 = o + (a + 1) by intro a; omega]
    exact ih
  | opens h0 h hd _ ih =>
    have h1 := vch_lt (u := s) (by rw [h]; decide)
    exact .opens (by omega) (by rw [hw.at_ _ h0 h1]; exact h) hd (by rw [show ∀ a : Int, o + a + 1 = o + (a + 1) by intro a; omega]; exact ih)
  | closes h0 h hd _ ih =>
    have h1 := vch_lt (u := s) (by rw [h]; decide)
    exact .closes (by omega) (by rw [hw.at_ _ h0 h1]; exact h) hd (by rw [show ∀ a : Int, o + a + 1 = o + (a + 1) by intro a; omega]; exact ih)
  | done h0 h hj =>
    have h1 := vch_lt (u := s) (by rw [h]; decide)
    exact .done (by omega) (by rw [hw.at_ _ h0 h1]; exact h) (by omega)
section
variable {s : ByteArray} {J : Int}
theorem seg_pass {d : Int} : ∀ (n : Nat) (a b : Int), (b - a).toNat = n → 0 ≤ a → a ≤ b → b ≤ (s.size : Int) → (∀ p, a ≤ p → p < b → vch (bt s p) = 0) → Run s J b d → Run s J a d
  | 0, a, b, hn, _, h2, _, _, h => by rw [show a = b by omega]; exact h
  | n + 1, a, b, hn, h1, h2, h3, h4, h => .dull h1 (by omega) (h4 a (Int.le_refl _) (by omega)) (seg_pass n (a + 1) b (by omega) (by omega) (by omega) h3 (fun p h5 h6 => h4 p (by omega) h6) h)
theorem ws_vch {c : Int} (h : ws c = true) : vch c = 0 := by
  simp only [ws, Bool.or_eq_true, beq_iff_eq] at h
  unfold vch
  rw [if_neg (by omega), if_neg (by omega), if_neg (by omega)]
theorem numc_vch {c : Int} (h : Nx.numc c) : vch c = 0 := by
  unfold Nx.numc at h
  unfold vch
  rw [if_neg (by omega), if_neg (by omega), if_neg (by omega)]
theorem ws_pass {a d : Int} (h0 : 0 ≤ a) (h1 : a ≤ (s.size : Int)) (h : Run s J (runEnd ws s a) d) : Run s J a d :=
  seg_pass _ a _ rfl h0 runEnd_ge (runEnd_le h1).2 (fun p h5 h6 => ws_vch (Nx.runEnd_all h5 h6)) h
theorem one_pass {a d : Int} (h0 : 0 ≤ a) (h1 : a < (s.size : Int)) (hc : vch (bt s a) = 0) (h : Run s J (a + 1) d) : Run s J a d := .dull h0 h1 hc h
theorem str_pass {i d j : Int} {l : List Int} {p : Bool} (h0 : 0 ≤ i) (hq : bt s i = 34) (hr : strR s (i + 1) = some (l, p, j)) (h : Run s J j d) : Run s J i d := by
  refine .str hq (strEnd_of (by omega) (by rw [show i + 1 - 1 = i by omega]; exact hq) hr) ?_
  rw [show j - 1 + 1 = j by omega]
  exact h
theorem word_vch {x : ByteArray} (hx : x = (⟨#[116, 114, 117, 101]⟩ : ByteArray) ∨ x = (⟨#[102, 97, 108, 115, 101]⟩ : ByteArray) ∨ x = (⟨#[110, 117, 108, 108]⟩ : ByteArray)) : ∀ q : Int, 0 ≤ q → q < (x.size : Int) → vch (bt x q) = 0 := by
  intro q h1 h2
  have h5 : x.size ≤ 5 := by rcases hx with rfl | rfl | rfl <;> decide
  have h3 : q = 0 ∨ q = 1 ∨ q = 2 ∨ q = 3 ∨ q = 4 := by omega
  rcases hx with rfl | rfl | rfl <;> rcases h3 with rfl | rfl | rfl | rfl | rfl <;> first | decide | exact absurd h2 (by decide)
theorem open_vch {c : Int} (h : c = 123 ∨ c = 91) : vch c = 3 := by rcases h with rfl | rfl <;> decide
theorem close_vch {c : Int} (h : c = 125 ∨ c = 93) : vch c = 1 := by rcases h with rfl | rfl <;> decide
variable (hs : (s.size : Int) ≤ 65536)
include hs
set_option maxHeartbeats 4000000 in
theorem all_pass : ∀ k : Nat,
    (∀ i T s' j D, treeF k s i false = some (T, s', j, false) → 0 ≤ i → i ≤ (s.size : Int) → 8 * ((s.size : Int) - i) + 164 ≤ k → 1 ≤ D → D + ((s.size : Int) - i) ≤ 1000000 → Run s J j D → Run s J i D) ∧
    (∀ i e ks K I P s' j D, listF k s i false e ks = some (K, I, P, s', j, false) → 0 ≤ i → i + 1 ≤ (s.size : Int) → (e = 125 ∨ e = 93) → 8 * ((s.size : Int) - (i + 1)) + 170 ≤ k → 1 ≤ D → D + ((s.size : Int) - (i + 1)) ≤ 1000000 →
      bt s (j - 1) = e ∧ i + 2 ≤ j ∧ (Run s J (j - 1) D → Run s J (i + 1) D)) ∧
    (∀ i e ks K0 I0 P0 K I P s' j D, loopF k s i false e ks K0 I0 P0 = some (K, I, P, s', j, false) → 0 ≤ i → i ≤ (s.size : Int) → (e = 125 ∨ e = 93) → (K0.length : Int) ≤ i → (I0.length : Int) ≤ i → 8 * ((s.size : Int) - i) + 169 ≤ k → 1 ≤ D → D + ((s.size : Int) - i) ≤ 1000000 →
      bt s (j - 1) = e ∧ i + 1 ≤ j ∧ (Run s J (j - 1) D → Run s J i D)) ∧
    (∀ i e ks K0 I0 P0 K I P s' j D, itemF k s i false e ks K0 I0 P0 = some (K, I, P, s', j, false) → 0 ≤ i → i ≤ (s.size : Int) → (e = 125 ∨ e = 93) → (K0.length : Int) ≤ i + 1 → (I0.length : Int) ≤ i → 8 * ((s.size : Int) - i) + 168 ≤ k → 1 ≤ D → D + ((s.size : Int) - i) ≤ 1000000 →
      bt s (j - 1) = e ∧ i + 1 ≤ j ∧ (Run s J (j - 1) D → Run s J i D)) := by
  intro k
  induction k with
  | zero => exact ⟨fun i T s' j D _ h0 h1 h => by omega, fun i e ks K I P s' j D _ h0 h1 he h => by omega, fun i e ks K0 I0 P0 K I P s' j D _ h0 h1 he hK hI h => by omega, fun i e ks K0 I0 P0 K I P s' j D _ h0 h1 he hK hI h => by omega⟩
  | succ k ih =>
    obtain ⟨ihT, ihL, ihO, ihI⟩ := ih
    refine ⟨?_, ?_, ?_, ?_⟩
    · intro i T s' j D h h0 h1 hk hD hD2 hr
      obtain ⟨rfl, ht⟩ := tree_inv hs h0 h1 (by omega) h
      cases ht with
      | str l p hc hR => exact str_pass h0 hc hR hr
      | word kind x hx hwd hjx =>
        have hx' : x = (⟨#[116, 114, 117, 101]⟩ : ByteArray) ∨ x = (⟨#[102, 97, 108, 115, 101]⟩ : ByteArray) ∨ x = (⟨#[110, 117, 108, 108]⟩ : ByteArray) := by rcases hx with ⟨_, h⟩ | ⟨_, h⟩ | ⟨_, h⟩ <;> simp [h]
        obtain ⟨_, j', _, e1, _, j2, _⟩ := (all_read hs (k + 1)).1 i false h0 h1 (by omega)
        have e2 := e1.symm.trans h
        simp only [Option.some.injEq, Prod.mk.injEq] at e2
        refine seg_pass _ i j rfl h0 (by omega) (by omega) (fun p h5 h6 => ?_) hr
        have := hwd (p - i) (by omega) (by omega)
        rw [show i + (p - i) = p by omega] at this
        rw [this]
        exact word_vch hx' _ (by omega) (by omega)
      | list e ks K I P hc hL =>
        have hlt := lt_of_bt (s := s') (i := i) (by omega)
        obtain ⟨g1, g2, g3⟩ := ihL i e ks K I P s' j (D + 1) hL h0 (by omega) (by omega) (by omega) (by omega) (by omega)
        refine .opens h0 (open_vch (by omega)) (by omega) (g3 (.closes (by omega) (close_vch (by omega)) (by omega) ?_))
        rw [show j - 1 + 1 = j by omega, show D + 1 - 1 = D by omega]
        exact hr
      | num hc hn hj =>
        have h3 := numEnd_le (s := s') (i := i) h1
        refine seg_pass _ i j rfl h0 (by omega) (by omega) (fun p h5 h6 => numc_vch (Nx.num_bytes h5 (by omega))) hr
    · intro i e ks K I P s' j D h h0 h1 he hk hD hD2
      have hb := runEnd_le (p := ws) (s := s) (i := i + 1) h1
      obtain ⟨rfl, hc⟩ := list_inv hs h0 h1 (by omega) (by omega) h
      rcases hc with ⟨c, rfl, _⟩ | ⟨c, hL⟩
      · refine ⟨by rw [show runEnd ws s' (i + 1) + 1 - 1 = runEnd ws s' (i + 1) by omega]; exact c, by omega, fun hr => ?_⟩
        rw [show runEnd ws s' (i + 1) + 1 - 1 = runEnd ws s' (i + 1) by omega] at hr
        exact ws_pass (by omega) h1 hr
      · obtain ⟨g1, g2, g3⟩ := ihO _ e ks [] [] true K I P s' j D hL (by omega) hb.2 he (by simp; omega) (by simp; omega) (by omega) (by omega) (by omega)
        exact ⟨g1, by omega, fun hr => ws_pass (by omega) h1 (g3 hr)⟩
    · intro i e ks K0 I0 P0 K I P s' j D h h0 h1 he hK hI hk hD hD2
      rcases loop_inv hs h0 h1 (by omega) hK hI (by omega) h with ⟨_, hL⟩ | ⟨_, hq, l, p, j1, hR, hcol, hL⟩
      · exact ihI i e ks K0 I0 P0 K I P s' j D hL h0 h1 he (by omega) hI (by omega) hD (by omega)
      · have hle : i + 1 + 1 ≤ j1 ∧ j1 ≤ (s.size : Int) := strR_le _ _ hR
        have hb1 := runEnd_le (p := ws) (s := s) (i := j1) hle.2
        have hlt := lt_of_bt (s := s) (i := runEnd ws s j1) (by omega)
        have hb2 := runEnd_le (p := ws) (s := s) (i := runEnd ws s j1 + 1) (by omega)
        obtain ⟨g1, g2, g3⟩ := ihI _ e ks _ I0 _ K I P s' j D hL (by omega) hb2.2 he (by rw [List.length_append]; simp; omega) (by omega) (by omega) (by omega) (by omega)
        exact ⟨g1, by omega, fun hr => str_pass h0 hq hR (ws_pass (by omega) hle.2 (one_pass (by omega) hlt (by rw [hcol]; decide) (ws_pass (by omega) (by omega) (g3 hr))))⟩
    · intro i e ks K0 I0 P0 K I P s' j D h h0 h1 he hK hI hk hD hD2
      obtain ⟨T, j1, hT, j2, j3, hc⟩ := item_inv hs h0 h1 (by omega) hK hI (by omega) h
      have hb1 := runEnd_le (p := ws) (s := s) (i := j1) j3
      rcases hc with ⟨c, hL⟩ | ⟨c, c2, rfl, rfl, _, _, _⟩
      · have hlt := lt_of_bt (s := s) (i := runEnd ws s j1) (by omega)
        have hb2 := runEnd_le (p := ws) (s := s) (i := runEnd ws s j1 + 1) (by omega)
        obtain ⟨g1, g2, g3⟩ := ihO _ e ks K0 _ _ K I P s' j D hL (by omega) hb2.2 he (by omega) (by rw [List.length_append]; simp; omega) (by omega) (by omega) (by omega)
        exact ⟨g1, by omega, fun hr => ihT i T s j1 D hT h0 h1 (by omega) hD (by omega) (ws_pass (by omega) j3 (one_pass (by omega) hlt (by rw [c]; decide) (ws_pass (by omega) (by omega) (g3 hr))))⟩
      · refine ⟨by rw [show runEnd ws s' j1 + 1 - 1 = runEnd ws s' j1 by omega]; exact c2, by omega, fun hr => ?_⟩
        rw [show runEnd ws s' j1 + 1 - 1 = runEnd ws s' j1 by omega] at hr
        exact ihT i T s' j1 D hT h0 h1 (by omega) hD hD2 (ws_pass (by omega) j3 hr)
theorem list_run {k : Nat} {i j : Int} {T : JT} {s' : ByteArray} (h0 : 0 ≤ i) (h1 : i < (s.size : Int)) (hk : 8 * ((s.size : Int) - i) + 200 ≤ k) (hJ : J = j) (hb : bt s i = 123 ∨ bt s i = 91) (h : treeF (k + 1) s i false = some (T, s', j, false)) : Run s J (i + 1) 1 := by
  obtain ⟨rfl, ht⟩ := tree_inv hs h0 (by omega) (by omega) h
  cases ht with
  | str l p hc hR => omega
  | word kind x hx hwd hjx =>
    have := hwd 0 (by omega) (by rcases hx with ⟨_, rfl⟩ | ⟨_, rfl⟩ | ⟨_, rfl⟩ <;> decide)
    rw [Int.add_zero] at this
    rcases hx with ⟨_, rfl⟩ | ⟨_, rfl⟩ | ⟨_, rfl⟩
    · have e : bt (⟨#[116, 114, 117, 101]⟩ : ByteArray) 0 = 116 := by decide
      omega
    · have e : bt (⟨#[102, 97, 108, 115, 101]⟩ : ByteArray) 0 = 102 := by decide
      omega
    · have e : bt (⟨#[110, 117, 108, 108]⟩ : ByteArray) 0 = 110 := by decide
      omega
  | list e ks K I P hc hL =>
    obtain ⟨g1, g2, g3⟩ := (all_pass hs k).2.1 i e ks K I P s' j 1 hL h0 (by omega) (by omega) (by omega) (by omega) (by omega)
    exact g3 (.done (by omega) (close_vch (by omega)) (by omega))
  | num hc hn hj => omega
end
end Go.Proofs.YtldfejbmdonaoaaDoor.Sn