/- Joined by a program of mine from texts of this claim: Sr, PFnAppendParsex11, Ss. -/
import Derived.Test.YtldfejbmdonaoaaGreatDoorZB41
import Derived.Test.YtldfejbmdonaoaaGreatDoorZB2
import Derived.Test.YtldfejbmdonaoaaGreatDoorZB39
import Derived.Test.YtldfejbmdonaoaaGreatDoorZB40
import Derived.Test.YtldfejbmdonaoaaGreatDoorZB37
import Derived.Deep.QuietTactic
import Derived.BigQuiet
import Derived.Laws.Concat
namespace Go.Proofs.YtldfejbmdonaoaaGreatDoor.Sr
open Go.RowKit YtldfejbmdonaoaaGreatDoorW.PrintWords YtldfejbmdonaoaaGreatDoorW.PrintLast YtldfejbmdonaoaaGreatDoorW.PrintMore Tw Tf Tp Te Tg Ti Sq Sp PFnAppendParse
set_option linter.unusedVariables false
set_option linter.unusedSimpArgs false
instance (c : Int) : Decidable (dull c) := by unfold dull; infer_instance
theorem run_all (q : Int → Bool) (s : ByteArray) : ∀ (n : Nat) (i : Int), ∀ p, i ≤ p → p < run q s n i → q (bt s p) = true := by
  intro n
  induction n with
  | zero => intro i p h1 h2; simp only [run] at h2; omega
  | succ n ih =>
    intro i p h1 h2
    unfold run at h2
    by_cases c : q (bt s i) = true
    · rw [if_pos c] at h2
      by_cases h3 : p = i
      · rw [h3]; exact c
      · exact ih (i + 1) p (by omega) h2
    · rw [if_neg c] at h2
      omega
theorem runEnd_all {q : Int → Bool} {s : ByteArray} {i p : Int} (h1 : i ≤ p) (h2 : p < runEnd q s i) : q (bt s p) = true := run_all q s _ i p h1 h2
theorem ws_dull {c : Int} (h : ws c = true) : dull c := by
  simp only [ws, Bool.or_eq_true, beq_iff_eq] at h
  unfold dull
  omega
theorem dg_dull {c : Int} (h : dg c = true) : dull c := by
  simp only [dg, Bool.and_eq_true, decide_eq_true_eq] at h
  unfold dull
  omega
theorem num_dull {s : ByteArray} {i : Int} (hi : i ≤ (s.size : Int)) : ∀ p, i ≤ p → p < numEnd s i → dull (bt s p) := by
  intro p h1 h2
  have a1 := nSign_le hi
  have a2 := nInt_le a1.2
  have a3 := nFrac_le a2.2
  unfold numEnd at h2
  by_cases c1 : p < nSign s i
  · unfold nSign at c1
    split at c1
    · rename_i h; rw [show p = i by omega, h]; decide
    · omega
  by_cases c2 : p < nInt s (nSign s i)
  · unfold nInt at c2
    split at c2
    · rename_i h; rw [show p = nSign s i by omega, h]; decide
    · exact dg_dull (runEnd_all (by omega) c2)
  by_cases c3 : p < nFrac s (nInt s (nSign s i))
  · unfold nFrac at c3
    split at c3
    · rename_i h
      by_cases h3 : p = nInt s (nSign s i)
      · rw [h3, h]; decide
      · exact dg_dull (runEnd_all (by omega) c3)
    · omega
  · revert h2 c3
    generalize nFrac s (nInt s (nSign s i)) = m
    intro h2 c3
    unfold nExp at h2
    split at h2
    · rename_i h
      by_cases h3 : p = m
      · rw [h3]
        simp only [isE, Bool.or_eq_true, beq_iff_eq] at h
        unfold dull
        omega
      · by_cases h4 : p < nAt s (m + 1)
        · unfold nAt at h4
          split at h4
          · rename_i h5; rw [show p = m + 1 by omega, h5]; decide
          · split at h4
            · rename_i h5; rw [show p = m + 1 by omega, h5]; decide
            · omega
        · exact dg_dull (runEnd_all (by omega) h2)
    · omega
theorem word_dull {x : ByteArray} (hx : x = (⟨#[116, 114, 117, 101]⟩ : ByteArray) ∨ x = (⟨#[102, 97, 108, 115, 101]⟩ : ByteArray) ∨ x = (⟨#[110, 117, 108, 108]⟩ : ByteArray)) : ∀ q : Int, 0 ≤ q → q < (x.size : Int) → dull (bt x q) := by
  intro q h1 h2
  have h5 : x.size ≤ 5 := by rcases hx with rfl | rfl | rfl <;> decide
  have h3 : q = 0 ∨ q = 1 ∨ q = 2 ∨ q = 3 ∨ q = 4 := by omega
  unfold dull
  rcases hx with rfl | rfl | rfl <;> rcases h3 with rfl | rfl | rfl | rfl | rfl <;> first | decide | exact absurd h2 (by decide)
section
variable {u s : ByteArray} {lo hi : Int} (hs : (s.size : Int) ≤ 65536) (hu : (u.size : Int) ≤ 2147483647) (hw : Win u s lo hi)
include hs hu hw
omit hs in
theorem seg_pass {a b D : Int} {r : ByteArray} (h1 : lo ≤ a) (h2 : a ≤ b) (h3 : b ≤ hi) (h4 : ∀ p, a ≤ p → p < b → dull (bt s p)) (h : L0 u (b - lo) D r) : L0 u (a - lo) D r := by
  have w2 := hw.2.2.1
  have hn : a - lo + ((b - a).toNat : Int) = b - lo := by omega
  refine l0_skip hu (b - a).toNat (a - lo) (by omega) (by omega) (fun q h5 h6 => ?_) (by rw [hn]; exact h)
  have := hw.2.2.2 (q + lo) (by omega) (by omega)
  rw [show q + lo - lo = q by omega] at this
  rw [this]
  exact h4 _ (by omega) (by omega)
omit hs in
theorem ws_pass {a D : Int} {r : ByteArray} (h1 : lo ≤ a) (h3 : runEnd ws s a ≤ hi) (h : L0 u (runEnd ws s a - lo) D r) : L0 u (a - lo) D r :=
  seg_pass hu hw h1 runEnd_ge h3 (fun p h5 h6 => ws_dull (runEnd_all h5 h6)) h
omit hs in
theorem one_dull {a D : Int} {r : ByteArray} (h1 : lo ≤ a) (h3 : a + 1 ≤ hi) (hc : dull (bt s a)) (h : L0 u (a + 1 - lo) D r) : L0 u (a - lo) D r :=
  seg_pass hu hw h1 (by omega) h3 (fun p h5 h6 => by rw [show p = a by omega]; exact hc) h
set_option maxHeartbeats 4000000 in
theorem all_pass : ∀ k : Nat,
    (∀ i T s' j D r, treeF k s i false = some (T, s', j, false) → 0 ≤ i → i ≤ (s.size : Int) → 8 * ((s.size : Int) - i) + 164 ≤ k → lo ≤ i → j ≤ hi → 1 ≤ D → D + ((s.size : Int) - i) ≤ 1000000 → L0 u (j - lo) D r → L0 u (i - lo) D r) ∧
    (∀ i e ks K I P s' j D, listF k s i false e ks = some (K, I, P, s', j, false) → 0 ≤ i → i + 1 ≤ (s.size : Int) → (e = 125 ∨ e = 93) → 8 * ((s.size : Int) - (i + 1)) + 170 ≤ k → lo ≤ i → j ≤ hi → 1 ≤ D → D + ((s.size : Int) - (i + 1)) ≤ 1000000 →
      bt s (j - 1) = e ∧ i + 2 ≤ j ∧ ∀ r, L0 u (j - 1 - lo) D r → L0 u (i + 1 - lo) D r) ∧
    (∀ i e ks K0 I0 P0 K I P s' j D, loopF k s i false e ks K0 I0 P0 = some (K, I, P, s', j, false) → 0 ≤ i → i ≤ (s.size : Int) → (e = 125 ∨ e = 93) → (K0.length : Int) ≤ i → (I0.length : Int) ≤ i → 8 * ((s.size : Int) - i) + 169 ≤ k → lo ≤ i → j ≤ hi → 1 ≤ D → D + ((s.size : Int) - i) ≤ 1000000 →
      bt s (j - 1) = e ∧ i + 1 ≤ j ∧ ∀ r, L0 u (j - 1 - lo) D r → L0 u (i - lo) D r) ∧
    (∀ i e ks K0 I0 P0 K I P s' j D, itemF k s i false e ks K0 I0 P0 = some (K, I, P, s', j, false) → 0 ≤ i → i ≤ (s.size : Int) → (e = 125 ∨ e = 93) → (K0.length : Int) ≤ i + 1 → (I0.length : Int) ≤ i → 8 * ((s.size : Int) - i) + 168 ≤ k → lo ≤ i → j ≤ hi → 1 ≤ D → D + ((s.size : Int) - i) ≤ 1000000 →
      bt s (j - 1) = e ∧ i + 1 ≤ j ∧ ∀ r, L0 u (j - 1 - lo) D r → L0 u (i - lo) D r) := by
  intro k
  obtain ⟨w0, w1, w2, w3⟩ := id hw
  induction k with
  | zero => exact ⟨fun i T s' j D r _ h0 h1 h => by omega, fun i e ks K I P s' j D _ h0 h1 he h => by omega, fun i e ks K0 I0 P0 K I P s' j D _ h0 h1 he hK hI h => by omega, fun i e ks K0 I0 P0 K I P s' j D _ h0 h1 he hK hI h => by omega⟩
  | succ k ih =>
    obtain ⟨ihT, ihL, ihO, ihI⟩ := ih
    refine ⟨?_, ?_, ?_, ?_⟩
    · intro i T s' j D r h h0 h1 hk hl hj hD hD2 hr
      obtain ⟨rfl, ht⟩ := tree_inv hs h0 h1 (by omega) h
      cases ht with
      | str l p hc hR =>
        have hle := strR_le _ _ hR
        refine str_whole hu hw (by omega) hl hj hc hR ((j5_on hu (by omega) (by omega)).1 (by omega) ?_)
        rw [show j - 1 - lo + 1 = j - lo by omega]
        exact hr
      | word kind x hx hwd hjx =>
        have hx' : x = (⟨#[116, 114, 117, 101]⟩ : ByteArray) ∨ x = (⟨#[102, 97, 108, 115, 101]⟩ : ByteArray) ∨ x = (⟨#[110, 117, 108, 108]⟩ : ByteArray) := by rcases hx with ⟨_, h⟩ | ⟨_, h⟩ | ⟨_, h⟩ <;> simp [h]
        refine seg_pass hu hw hl (by omega) hj (fun p h5 h6 => ?_) hr
        have := hwd (p - i) (by omega) (by omega)
        rw [show i + (p - i) = p by omega] at this
        rw [this]
        exact word_dull hx' _ (by omega) (by omega)
      | list e ks K I P hc hL =>
        have hlt := lt_of_bt (s := s') (i := i) (by omega)
        obtain ⟨g1, g2, g3⟩ := ihL i e ks K I P s' j (D + 1) hL h0 (by omega) (by omega) (by omega) hl hj (by omega) (by omega)
        refine l0_open hu (by omega) (by omega) (by omega) (by rw [w3 i (by omega) (by omega)]; omega) ?_
        rw [show i - lo + 1 = i + 1 - lo by omega]
        refine g3 r ((l0_close hu (by omega) (by omega) (by omega) (by rw [w3 (j - 1) (by omega) (by omega), g1]; omega)).1 (by omega) ?_)
        rw [show j - 1 - lo + 1 = j - lo by omega, show D + 1 - 1 = D by omega]
        exact hr
      | num hc hn hjn =>
        subst hjn
        exact seg_pass hu hw hl (numEnd_le h1).1 hj (num_dull h1) hr
    · intro i e ks K I P s' j D h h0 h1 he hk hl hj hD hD2
      obtain ⟨rfl, hc⟩ := list_inv hs h0 h1 (by omega) (by omega) h
      have hb := runEnd_le (p := ws) (s := s') (i := i + 1) h1
      rcases hc with ⟨c, rfl, _, _, _⟩ | ⟨c, hL⟩
      · refine ⟨by rw [show runEnd ws s' (i + 1) + 1 - 1 = runEnd ws s' (i + 1) by omega]; exact c, by omega, fun r hr => ?_⟩
        rw [show runEnd ws s' (i + 1) + 1 - 1 = runEnd ws s' (i + 1) by omega] at hr
        exact ws_pass hu hw (by omega) (by omega) hr
      · obtain ⟨g1, g2, g3⟩ := ihO _ e ks [] [] true K I P s' j D hL (by omega) hb.2 he (by simp; omega) (by simp; omega) (by omega) (by omega) hj hD (by omega)
        exact ⟨g1, by omega, fun r hr => ws_pass hu hw (by omega) (by omega) (g3 r hr)⟩
    · intro i e ks K0 I0 P0 K I P s' j D h h0 h1 he hK hI hk hl hj hD hD2
      rcases loop_inv hs h0 h1 (by omega) hK hI (by omega) h with ⟨_, hL⟩ | ⟨_, hq, l, p, j1, hR, hcol, hL⟩
      · exact ihI i e ks K0 I0 P0 K I P s' j D hL h0 h1 he (by omega) hI (by omega) hl hj hD hD2
      · have hle : i + 1 + 1 ≤ j1 ∧ j1 ≤ (s.size : Int) := strR_le _ _ hR
        have hb1 := runEnd_le (p := ws) (s := s) (i := j1) hle.2
        have hlt := lt_of_bt (s := s) (i := runEnd ws s j1) (by omega)
        have hb2 := runEnd_le (p := ws) (s := s) (i := runEnd ws s j1 + 1) (by omega)
        obtain ⟨g1, g2, g3⟩ := ihI _ e ks _ I0 _ K I P s' j D hL (by omega) hb2.2 he (by rw [List.length_append]; simp; omega) (by omega) (by omega) (by omega) hj hD (by omega)
        refine ⟨g1, by omega, fun r hr => ?_⟩
        refine str_whole hu hw (by omega) hl (by omega) hq hR ((j5_on hu (by omega) (by omega)).1 (by omega) ?_)
        rw [show j1 - 1 - lo + 1 = j1 - lo by omega]
        refine ws_pass hu hw (by omega) (by omega) (one_dull hu hw (by omega) (by omega) (by rw [hcol]; decide) ?_)
        exact ws_pass hu hw (by omega) (by omega) (g3 r hr)
    · intro i e ks K0 I0 P0 K I P s' j D h h0 h1 he hK hI hk hl hj hD hD2
      obtain ⟨T, j1, hT, j2, j3, hc⟩ := item_inv hs h0 h1 (by omega) hK hI (by omega) h
      have hb1 := runEnd_le (p := ws) (s := s) (i := j1) j3
      rcases hc with ⟨c, hL⟩ | ⟨c, c2, rfl, rfl, _, _, _⟩
      · have hlt := lt_of_bt (s := s) (i := runEnd ws s j1) (by omega)
        have hb2 := runEnd_le (p := ws) (s := s) (i := runEnd ws s j1 + 1) (by omega)
        obtain ⟨g1, g2, g3⟩ := ihO _ e ks K0 _ _ K I P s' j D hL (by omega) hb2.2 he (by omega) (by rw [List.length_append]; simp; omega) (by omega) (by omega) hj hD (by omega)
        refine ⟨g1, by omega, fun r hr => ?_⟩
        refine ihT i T s j1 D r hT h0 h1 (by omega) hl (by omega) hD hD2 ?_
        refine ws_pass hu hw (by omega) (by omega) (one_dull hu hw (by omega) (by omega) (by rw [c]; decide) ?_)
        exact ws_pass hu hw (by omega) (by omega) (g3 r hr)
      · refine ⟨by rw [show runEnd ws s' j1 + 1 - 1 = runEnd ws s' j1 by omega]; exact c2, by omega, fun r hr => ?_⟩
        rw [show runEnd ws s' j1 + 1 - 1 = runEnd ws s' j1 by omega] at hr
        refine ihT i T s' j1 D r hT h0 h1 (by omega) hl (by omega) hD hD2 ?_
        exact ws_pass hu hw (by omega) (by omega) hr
end
end Go.Proofs.YtldfejbmdonaoaaGreatDoor.Sr
namespace Go.Proofs.YtldfejbmdonaoaaGreatDoor.PFnAppendParse
open Go.RowKit YtldfejbmdonaoaaGreatDoorW.PrintWords YtldfejbmdonaoaaGreatDoorW.PrintLast YtldfejbmdonaoaaGreatDoorW.PrintMore
attribute [local go_sem] max2_int min2_int max_two min_two max_three min_three max_four min_four   -- for this text's walks alone
set_option linter.unusedVariables false
set_option linter.unusedSimpArgs false
def gjson_ZZSquash.f (k : Nat) (a0 : ByteArray) : Option (ByteArray) := (gjson_squash.f k a0).bind fun t255 => (some t255)
def impl_Squash.f (k : Nat) (a0 : ByteArray) : Option (ByteArray) := (gjson_ZZSquash.f k a0).bind fun t256 => (some t256)
end Go.Proofs.YtldfejbmdonaoaaGreatDoor.PFnAppendParse
namespace Go.Proofs.YtldfejbmdonaoaaGreatDoor.Ss
open Go.RowKit YtldfejbmdonaoaaGreatDoorW.PrintWords YtldfejbmdonaoaaGreatDoorW.PrintLast YtldfejbmdonaoaaGreatDoorW.PrintMore Tw Tf Tp Te Tg Ti Tr Sq Sr Sp PFnAppendParse
set_option linter.unusedVariables false
set_option linter.unusedSimpArgs false
theorem win_of {s rest : ByteArray} {i j : Int} (h0 : 0 ≤ i) (h1 : i ≤ j) (h2 : j ≤ (s.size : Int)) :
    (s.extract i.toNat j.toNat).size = (j - i).toNat ∧ Win (s.extract i.toNat j.toNat ++ rest) s i j := by
  have e : (s.extract i.toNat j.toNat).size = (j - i).toNat := by rw [ByteArray.size_extract]; omega
  refine ⟨e, h0, h2, by rw [ByteArray.size_append, e]; omega, fun p h3 h4 => ?_⟩
  obtain ⟨n, hn⟩ : ∃ n : Nat, p - i = (n : Int) := ⟨(p - i).toNat, by omega⟩
  rw [hn, Bt.bt_append_left (by rw [e]; omega), Bt.bt_extract (by omega) (by omega)]
  congr 1
  omega
theorem squash_ok {s s' rest : ByteArray} (hs : (s.size : Int) ≤ 65536) (hr : (rest.size : Int) ≤ 65536) {k : Nat} {i j : Int} {T : JT} (h0 : 0 ≤ i) (h1 : i ≤ (s.size : Int)) (hk : 8 * ((s.size : Int) - i) + 200 ≤ k)
    (h : treeF (k + 1) s i false = some (T, s', j, false)) (hT : T.kind = 5 ∨ T.kind = 3) : ∃ m, impl_Squash.f m (T.raw ++ rest) = some T.raw := by
  have up : ∀ (u r : ByteArray), 0 < (u.size : Int) → (bt u 0 = 34 → L0 u 0 0 r) → (bt u 0 ≠ 34 → L0 u 1 1 r) → ∃ m, impl_Squash.f m u = some r := by
    intro u r hz ha hb
    by_cases c : bt u 0 = 34
    · obtain ⟨m, hm⟩ := ha c
      refine ⟨m + 1, ?_⟩
      unfold impl_Squash.f gjson_ZZSquash.f gjson_squash.f
      rw [if_pos hz, if_pos c, gjson_squash.j0, hm]
      rfl
    · obtain ⟨m, hm⟩ := hb c
      refine ⟨m + 1, ?_⟩
      unfold impl_Squash.f gjson_ZZSquash.f gjson_squash.f
      rw [if_pos hz, if_neg c, gjson_squash.j0, hm]
      rfl
  obtain ⟨rfl, ht⟩ := tree_inv hs h0 h1 (by omega) h
  cases ht with
  | str l p hc hR =>
    have hle : i + 1 + 1 ≤ j ∧ j ≤ (s'.size : Int) := strR_le _ _ hR
    obtain ⟨e, hw⟩ := win_of (s := s') (rest := rest) h0 (by omega) hle.2
    show ∃ m, impl_Squash.f m (s'.extract i.toNat j.toNat ++ rest) = some (s'.extract i.toNat j.toNat)
    have hz : (s'.extract i.toNat j.toNat ++ rest).size = (j - i).toNat + rest.size := by rw [ByteArray.size_append, e]
    have hcut : s'.extract i.toNat j.toNat = (s'.extract i.toNat j.toNat ++ rest).extract 0 (j - i).toNat := (ByteArray.extract_append_eq_left e.symm).symm
    revert hw hz hcut
    generalize s'.extract i.toNat j.toNat ++ rest = u
    intro hw hz hcut
    have b0 : bt u 0 = 34 := by
      have := hw.2.2.2 i (by omega) (by omega)
      rw [show i - i = 0 by omega] at this
      rw [this, hc]
    refine up u _ (by omega) (fun _ => ?_) (fun h => absurd b0 h)
    have := str_whole (d := 0) (r := s'.extract i.toNat j.toNat) (by omega) hw (by omega) (Int.le_refl _) (Int.le_refl _) hc hR ((j5_on (by omega) (by omega) (by omega)).2 rfl (by
      rw [show j - 1 - i + 1 = j - i by omega]
      exact hcut))
    rw [show i - i = 0 by omega] at this
    exact this
  | word kind x hx _ _ =>
    replace hT : kind = 5 ∨ kind = 3 := hT
    omega
  | list e ks K I P hc hL =>
    have hlt := lt_of_bt (s := s') (i := i) (by omega)
    obtain ⟨K', I', P', j', b', e1, j1, j2, _⟩ := (all_read hs k).2.1 i false e ks h0 (by omega) (by omega) (by omega)
    have e2 := e1.symm.trans hL
    simp only [Option.some.injEq, Prod.mk.injEq] at e2
    obtain ⟨_, _, _, _, rfl, _⟩ := e2
    obtain ⟨e, hw⟩ := win_of (s := s') (rest := rest) h0 (by omega) j2
    show ∃ m, impl_Squash.f m (s'.extract i.toNat j'.toNat ++ rest) = some (s'.extract i.toNat j'.toNat)
    have hz : (s'.extract i.toNat j'.toNat ++ rest).size = (j' - i).toNat + rest.size := by rw [ByteArray.size_append, e]
    have hcut : s'.extract i.toNat j'.toNat = (s'.extract i.toNat j'.toNat ++ rest).extract 0 (j' - i).toNat := (ByteArray.extract_append_eq_left e.symm).symm
    revert hw hz hcut
    generalize s'.extract i.toNat j'.toNat ++ rest = u
    intro hw hz hcut
    obtain ⟨g1, g2, g3⟩ := (all_pass hs (u := u) (by omega) hw k).2.1 i _ ks K I P s' j' 1 hL h0 (by omega) (by omega) (by omega) (Int.le_refl _) (Int.le_refl _) (by omega) (by omega)
    have b0 : bt u 0 ≠ 34 := by
      have := hw.2.2.2 i (by omega) (by omega)
      rw [show i - i = 0 by omega] at this
      rw [this]
      omega
    refine up u _ (by omega) (fun h => absurd h b0) (fun _ => ?_)
    have := g3 (s'.extract i.toNat j'.toNat) ((l0_close (by omega) (by omega) (by omega) (by omega) (by rw [hw.2.2.2 (j' - 1) (by omega) (by omega), g1]; omega)).2 rfl (by
      rw [show j' - 1 - i + 1 = j' - i by omega]
      exact hcut))
    rw [show i + 1 - i = 1 by omega] at this
    exact this
  | num _ _ _ =>
    replace hT : (2 : Int) = 5 ∨ (2 : Int) = 3 := hT
    omega
theorem read_is {s : ByteArray} (hs : (s.size : Int) ≤ 65536) {k : Nat} (hk : 600000 ≤ k) : ∃ T ok, readF k s = some (T, ok) ∧
    ∃ j b, treeF k s (runEnd ws s 0) false = some (T, s, j, b) ∧ runEnd ws s 0 ≤ j ∧ j ≤ (s.size : Int) ∧ ok = (!b && runEnd ws s j == (s.size : Int)) := by
  have hs' : (s.size : Int) ≤ 2147483647 := by omega
  have hb := runEnd_le (p := ws) (s := s) (i := 0) (by omega)
  obtain ⟨T, j, b, e, j1, j2, _⟩ := (all_read hs k).1 (runEnd ws s 0) false (by omega) hb.2 (by omega)
  refine ⟨T, !b && runEnd ws s j == (s.size : Int), ?_, j, b, e, j1, j2, rfl⟩
  unfold readF
  rw [blank_eq hs' (by omega) false (by omega)]
  simp only [Option.bind_some]
  rw [e]
  simp only [Option.bind_some]
  rw [blank_eq hs' (by omega) b (by omega)]
  rfl
set_option maxRecDepth 100000 in
set_option maxHeartbeats 8000000 in
theorem read_long (s : ByteArray) (w : World) (hs : 65536 < (s.size : Int)) :
    Calls Tryz.prog 7 #[.string s] w fun e w' => e = .returned (.tuple #[.agg #[.int .i64 0, .string ⟨#[]⟩, .int .i64 0, .string ⟨#[]⟩, .bool false, .slice none 0 0, .slice none 0 0], .bool false]) ∧ Below w.heap.size w w' := by
  have hy := heap_alloc_new w (.cells #[.int .i64 0, .string ⟨#[]⟩, .int .i64 0, .string ⟨#[]⟩, .bool false, .slice none 0 0, .slice none 0 0] 25)
  have r0 := (blk_cell hy 0).trans (rfl : _ = some (Value.int .i64 0))
  have r1 := (blk_cell hy 1).trans (rfl : _ = some (Value.string ⟨#[]⟩))
  have r2 := (blk_cell hy 2).trans (rfl : _ = some (Value.int .i64 0))
  have r3 := (blk_cell hy 3).trans (rfl : _ = some (Value.string ⟨#[]⟩))
  have r4 := (blk_cell hy 4).trans (rfl : _ = some (Value.bool false))
  have r5 := (blk_cell hy 5).trans (rfl : _ = some (Value.slice none 0 0))
  have r6 := (blk_cell hy 6).trans (rfl : _ = some (Value.slice none 0 0))
  go_enter Tryz.func7, Tryz.ntmps7
  go_wp2_with fail
  refine bodyPost_ret (v := .tuple #[.agg #[.int .i64 0, .string ⟨#[]⟩, .int .i64 0, .string ⟨#[]⟩, .bool false, .slice none 0 0, .slice none 0 0], .bool false]) (by simp [results, Tryz.results7, go_sem, r0, r1, r2, r3, r4, r5, r6]) rfl ?_
  exact ⟨rfl, below_alloc (Below.refl _ _) _⟩
end Go.Proofs.YtldfejbmdonaoaaGreatDoor.Ss