/- Joined by a program of mine from texts of this claim: Ak, Al, Am. -/
import Derived.Test.YtldfejbmdonaoaaGreatDoorZB39
import Derived.Test.YtldfejbmdonaoaaGreatDoorZB42
import Derived.Test.YtldfejbmdonaoaaGreatDoorZB33
import Derived.Deep.CutBlock
import Derived.Deep.DeepCutAuto
import Derived.Deep.LoopGhost
import Derived.LoopN
import Derived.Scope
import Derived.Great.BuildSlice
namespace Go.Proofs.YtldfejbmdonaoaaGreatDoor.Ak
open Go.RowKit YtldfejbmdonaoaaGreatDoorW.PrintWords YtldfejbmdonaoaaGreatDoorW.PrintLast YtldfejbmdonaoaaGreatDoorW.PrintMore Tw Tf Tp Te Tg Ti Nx Sp PFnAppendParse
set_option linter.unusedVariables false
set_option linter.unusedSimpArgs false
def SqTo (u r : ByteArray) : Prop := ∃ m, gjson_squash.f m u = some r
inductive Val (s : ByteArray) (p j : Int) : JT → Prop where
  | str (l : List Int) (pr : Bool) (h : bt s p = 34) (hr : strR s (p + 1) = some (l, pr, j)) : Val s p j (.mk 3 (s.extract p.toNat j.toNat) p (strOfNums l) pr [] [])
  | word (kind : Int) (x : ByteArray) (hx : kind = 4 ∧ x = (⟨#[116, 114, 117, 101]⟩ : ByteArray) ∨ kind = 1 ∧ x = (⟨#[102, 97, 108, 115, 101]⟩ : ByteArray) ∨ kind = 0 ∧ x = (⟨#[110, 117, 108, 108]⟩ : ByteArray)) (hw : wordAt s p x) (hj : j = p + x.size) (hst : stopc (bt s j)) :
      Val s p j (.mk kind (s.extract p.toNat j.toNat) p (⟨#[]⟩ : ByteArray) true [] [])
  | list (K : List ByteArray) (I : List JT) (P : Bool) (h : bt s p = 123 ∨ bt s p = 91) (hj : p + 1 ≤ j) (hle : j ≤ (s.size : Int)) (sq : ∀ rest : ByteArray, (rest.size : Int) ≤ 65536 → SqTo (s.extract p.toNat j.toNat ++ rest) (s.extract p.toNat j.toNat)) :
      Val s p j (.mk 5 (s.extract p.toNat j.toNat) p (⟨#[]⟩ : ByteArray) P K I)
  | num (hn : numBad s p = false) (hj : j = numEnd s p) (hst : stopc (bt s j)) : Val s p j (.mk 2 (s.extract p.toNat j.toNat) p (⟨#[]⟩ : ByteArray) true [] [])
inductive Toks (s : ByteArray) : Int → List JT → Prop where
  | skip {p : Int} {l : List JT} (hlt : p < (s.size : Int)) (h : bt s p ≤ 32 ∨ bt s p = 44 ∨ bt s p = 58) (hr : Toks s (p + 1) l) : Toks s p l
  | stop {p : Int} (h : bt s p = 93 ∨ bt s p = 125) : Toks s p []
  | val {p j : Int} {T : JT} {l : List JT} (hv : Val s p j T) (hj : p + 1 ≤ j ∧ j ≤ (s.size : Int)) (hr : Toks s j l) : Toks s p (T :: l)
theorem squash_to {u r : ByteArray} (h : ∃ m, impl_Squash.f m u = some r) : SqTo u r := by
  obtain ⟨m, h⟩ := h
  refine ⟨m, ?_⟩
  unfold impl_Squash.f gjson_ZZSquash.f at h
  cases hq : gjson_squash.f m u with
  | none => rw [hq] at h; exact absurd h (by simp)
  | some x =>
    rw [hq] at h
    simpa using h
theorem ws_le {c : Int} (h : ws c = true) : c ≤ 32 := (Gd.ws_cases h).2
theorem toks_run {s : ByteArray} {l : List JT} : ∀ (n : Nat) (i : Int), ((s.size : Int) - i).toNat = n → i ≤ (s.size : Int) → Toks s (runEnd ws s i) l → Toks s i l
  | 0, i, hn, hi, h => by rw [runEnd_stop (.inl (by omega))] at h; exact h
  | n + 1, i, hn, hi, h => by
    by_cases c : ws (bt s i) = true
    · rw [runEnd_step (by omega) c] at h
      exact .skip (by omega) (.inl (ws_le c)) (toks_run n (i + 1) (by omega) (by omega) h)
    · rw [runEnd_stop (.inr (by simpa using c))] at h
      exact h
theorem toks_ws {s : ByteArray} {l : List JT} {i : Int} (hi : i ≤ (s.size : Int)) (h : Toks s (runEnd ws s i) l) : Toks s i l := toks_run _ i rfl hi h
theorem behind {s : ByteArray} {j1 : Int} (h : bt s (runEnd ws s j1) = 44 ∨ bt s (runEnd ws s j1) = 93 ∨ bt s (runEnd ws s j1) = 125) (hle : j1 ≤ (s.size : Int)) : stopc (bt s j1) := by
  by_cases c : ws (bt s j1) = true
  · exact .inl (ws_le c)
  · rw [runEnd_stop (.inr (by simpa using c))] at h
    unfold stopc
    omega
theorem val_of {s : ByteArray} (hs : (s.size : Int) ≤ 65536) {k : Nat} {i j : Int} {T : JT} (h0 : 0 ≤ i) (h1 : i ≤ (s.size : Int)) (hk : 8 * ((s.size : Int) - i) + 200 ≤ k) (h : treeF (k + 1) s i false = some (T, s, j, false)) (hst : stopc (bt s j)) : Val s i j T ∧ i + 1 ≤ j ∧ j ≤ (s.size : Int) := by
  obtain ⟨T', j', b', e', j1, j2, _⟩ := (all_read hs (k + 1)).1 i false h0 h1 (by omega)
  have e2 := e'.symm.trans h
  simp only [Option.some.injEq, Prod.mk.injEq] at e2
  obtain ⟨rfl, _, rfl, rfl⟩ := e2
  obtain ⟨_, hT⟩ := tree_inv hs h0 h1 (by omega) h
  have sq := fun (rest : ByteArray) (hr : (rest.size : Int) ≤ 65536) (h5 : T'.kind = 5 ∨ T'.kind = 3) => squash_to (Ss.squash_ok (rest := rest) hs hr h0 h1 hk h h5)
  cases hT with
  | str l p hq hr =>
    have := strR_le _ _ hr
    exact ⟨.str l p hq hr, by omega, j2⟩
  | word kind x hx hw hj =>
    have hz : 0 < (x.size : Int) := by rcases hx with ⟨_, rfl⟩ | ⟨_, rfl⟩ | ⟨_, rfl⟩ <;> decide
    exact ⟨.word kind x hx hw hj hst, by omega, j2⟩
  | list e ks K I P hq hl =>
    have hj : i + 1 ≤ j' := by
      obtain ⟨K', I', P', j3, b', e3, j4, _, _⟩ := (all_read hs k).2.1 i false e ks h0 (by have := lt_of_bt (s := s) (i := i) (by omega); omega) (by omega) (by omega)
      have e4 := e3.symm.trans hl
      simp only [Option.some.injEq, Prod.mk.injEq] at e4
      omega
    exact ⟨.list K I P (by omega) hj j2 (fun rest hr => sq rest hr (.inl rfl)), hj, j2⟩
  | num hq hn hj =>
    have h3 := num_gt hn
    have h4 := nSign_le (s := s) (i := i) h1
    exact ⟨.num hn hj hst, by omega, j2⟩
def flat : List (JT × JT) → List JT
  | [] => []
  | a :: r => a.1 :: a.2 :: flat r
def Holds (ks : Bool) (K0 K : List ByteArray) (I0 I : List JT) (P0 P : Bool) (l : List JT) : Prop :=
  (ks = false ∧ K = K0 ∧ I = I0 ++ l) ∨ (ks = true ∧ ∃ ps : List (JT × JT), l = flat ps ∧ K = K0 ++ ps.map (fun a => a.1.str) ∧ I = I0 ++ ps.map (fun a => a.2) ∧ (∀ a ∈ ps, a.1.kind = 3) ∧ (P = true → P0 = true ∧ ∀ a ∈ ps, a.1.pairs = true))
def HoldsI (ks : Bool) (K0 K : List ByteArray) (I0 I : List JT) (P0 P : Bool) (l : List JT) : Prop :=
  (ks = false ∧ K = K0 ∧ I = I0 ++ l) ∨ (ks = true ∧ ∃ (T : JT) (ps : List (JT × JT)), l = T :: flat ps ∧ K = K0 ++ ps.map (fun a => a.1.str) ∧ I = I0 ++ T :: ps.map (fun a => a.2) ∧ (∀ a ∈ ps, a.1.kind = 3) ∧ (P = true → P0 = true ∧ ∀ a ∈ ps, a.1.pairs = true))
theorem loops {s : ByteArray} (hs : (s.size : Int) ≤ 65536) {e : Int} (he : e = 93 ∨ e = 125) {ks : Bool} : ∀ k : Nat,
    (∀ (i j : Int) (K0 K : List ByteArray) (I0 I : List JT) (P0 P : Bool) (s' : ByteArray), 0 ≤ i → i ≤ (s.size : Int) → (K0.length : Int) ≤ i → (I0.length : Int) ≤ i → 8 * ((s.size : Int) - i) + 268 ≤ k →
      loopF (k + 1) s i false e ks K0 I0 P0 = some (K, I, P, s', j, false) → ∃ l, Toks s i l ∧ Holds ks K0 K I0 I P0 P l) ∧
    (∀ (i j : Int) (K0 K : List ByteArray) (I0 I : List JT) (P0 P : Bool) (s' : ByteArray), 0 ≤ i → i ≤ (s.size : Int) → (K0.length : Int) ≤ i + 1 → (I0.length : Int) ≤ i → 8 * ((s.size : Int) - i) + 267 ≤ k →
      itemF (k + 1) s i false e ks K0 I0 P0 = some (K, I, P, s', j, false) → ∃ l, Toks s i l ∧ HoldsI ks K0 K I0 I P0 P l) := by
  intro k
  induction k with
  | zero => exact ⟨fun _ _ _ _ _ _ _ _ _ _ _ _ _ h => absurd h (by omega), fun _ _ _ _ _ _ _ _ _ _ _ _ _ h => absurd h (by omega)⟩
  | succ k ih =>
    constructor
    · intro i j K0 K I0 I P0 P s' h0 h1 hK hI hk h
      rcases loop_inv hs h0 h1 (by omega) hK hI (by omega) h with ⟨rfl, h2⟩ | ⟨rfl, hq, l, p, j1, hR, hc, h2⟩
      · obtain ⟨l, ht, hh⟩ := ih.2 i j K0 K I0 I P0 P s' h0 h1 (by omega) hI (by omega) h2
        refine ⟨l, ht, ?_⟩
        rcases hh with ⟨_, h3, h4⟩ | ⟨h3, _⟩
        · exact .inl ⟨rfl, h3, h4⟩
        · exact absurd h3 (by decide)
      · have h3 := strR_le _ _ hR
        have h4 := runEnd_le (p := ws) (s := s) (i := j1) h3.2
        have h5 := lt_of_bt (s := s) (i := runEnd ws s j1) (by omega)
        have h6 := runEnd_le (p := ws) (s := s) (i := runEnd ws s j1 + 1) (by omega)
        obtain ⟨l2, ht, hh⟩ := ih.2 _ j _ K I0 I _ P s' (by omega) h6.2 (by rw [List.length_append]; simp; omega) (by omega) (by omega) h2
        refine ⟨.mk 3 (s.extract i.toNat j1.toNat) i (strOfNums l) p [] [] :: l2, .val (.str l p hq hR) (by omega) (toks_ws h3.2 (.skip h5 (.inr (.inr hc)) (toks_ws (by omega) ht))), ?_⟩
        rcases hh with ⟨h7, _⟩ | ⟨_, T, ps, rfl, rfl, rfl, h8, h9⟩
        · exact absurd h7 (by decide)
        · refine .inr ⟨rfl, (.mk 3 (s.extract i.toNat j1.toNat) i (strOfNums l) p [] [], T) :: ps, rfl, by simp [JT.str], by simp, ?_, ?_⟩
          · intro a ha
            rcases List.mem_cons.mp ha with rfl | ha
            · rfl
            · exact h8 a ha
          · intro hP
            obtain ⟨g1, g2⟩ := h9 hP
            simp only [Bool.and_eq_true] at g1
            refine ⟨g1.1, fun a ha => ?_⟩
            rcases List.mem_cons.mp ha with rfl | ha
            · exact g1.2
            · exact g2 a ha
    · intro i j K0 K I0 I P0 P s' h0 h1 hK hI hk h
      obtain ⟨T, j1, hT, h2, h3, h4⟩ := item_inv hs h0 h1 (by omega) hK hI (by omega) h
      have h5 := runEnd_le (p := ws) (s := s) (i := j1) h3
      obtain ⟨k', rfl⟩ : ∃ k', k = k' + 1 := ⟨k - 1, by omega⟩
      have hst : stopc (bt s j1) := behind (by rcases h4 with ⟨h, _⟩ | ⟨_, h, _⟩ <;> omega) h3
      obtain ⟨hv, hj, hj2⟩ := val_of hs h0 h1 (by omega) hT hst
      rcases h4 with ⟨hc, h4⟩ | ⟨_, hc, _, rfl, rfl, rfl, rfl⟩
      · have h6 := lt_of_bt (s := s) (i := runEnd ws s j1) (by omega)
        have h7 := runEnd_le (p := ws) (s := s) (i := runEnd ws s j1 + 1) (by omega)
        obtain ⟨l, ht, hh⟩ := ih.1 _ j K0 K _ I _ P s' (by omega) h7.2 (by omega) (by rw [List.length_append]; simp; omega) (by omega) h4
        refine ⟨T :: l, .val hv (by omega) (toks_ws h3 (.skip h6 (.inr (.inl hc)) (toks_ws (by omega) ht))), ?_⟩
        rcases hh with ⟨h8, h9, h10⟩ | ⟨h8, ps, rfl, h9, h10, h11, h12⟩
        · exact .inl ⟨h8, h9, by rw [h10]; simp⟩
        · refine .inr ⟨h8, T, ps, rfl, h9, by rw [h10]; simp, h11, fun hP => ?_⟩
          obtain ⟨g1, g2⟩ := h12 hP
          simp only [Bool.and_eq_true] at g1
          exact ⟨g1.1, g2⟩
      · refine ⟨[T], .val hv (by omega) (toks_ws h3 (.stop (by omega))), ?_⟩
        cases ks with
        | false => exact .inl ⟨rfl, rfl, rfl⟩
        | true =>
          refine .inr ⟨rfl, T, [], rfl, by simp, by simp, fun a ha => absurd ha (by simp), fun hP => ?_⟩
          simp only [Bool.and_eq_true] at hP
          exact ⟨hP.1, fun a ha => absurd ha (by simp)⟩
theorem list_toks {s : ByteArray} (hs : (s.size : Int) ≤ 65536) {e : Int} (he : e = 93 ∨ e = 125) {ks : Bool} {k : Nat} {i j : Int} {K : List ByteArray} {I : List JT} {P : Bool} {s' : ByteArray} (h0 : 0 ≤ i) (h1 : i + 1 ≤ (s.size : Int)) (hk : 8 * ((s.size : Int) - (i + 1)) + 300 ≤ k) (h : listF (k + 1) s i false e ks = some (K, I, P, s', j, false)) :
    ∃ l, Toks s (i + 1) l ∧ Holds ks [] K [] I true P l := by
  obtain ⟨_, h2⟩ := list_inv hs h0 h1 (by omega) (by omega) h
  have h3 := runEnd_le (p := ws) (s := s) (i := i + 1) h1
  rcases h2 with ⟨hc, rfl, rfl, rfl, rfl⟩ | ⟨_, h2⟩
  · refine ⟨[], toks_ws h1 (.stop (by omega)), ?_⟩
    cases ks with
    | false => exact .inl ⟨rfl, rfl, rfl⟩
    | true => exact .inr ⟨rfl, [], rfl, by simp, by simp, fun a ha => absurd ha (by simp), fun _ => ⟨rfl, fun a ha => absurd ha (by simp)⟩⟩
  · obtain ⟨k, rfl⟩ : ∃ k', k = k' + 1 := ⟨k - 1, by omega⟩
    obtain ⟨l, ht, hh⟩ := (loops hs he k).1 _ j [] K [] I true P s' (by omega) h3.2 (by simp; omega) (by simp; omega) (by omega) h2
    exact ⟨l, toks_ws h1 ht, hh⟩
end Go.Proofs.YtldfejbmdonaoaaGreatDoor.Ak
namespace Go.Proofs.YtldfejbmdonaoaaGreatDoor.Al
open Go.RowKit YtldfejbmdonaoaaGreatDoorW.PrintWords YtldfejbmdonaoaaGreatDoorW.PrintLast YtldfejbmdonaoaaGreatDoorW.PrintMore Tw Tf Tp Te At Pz Nx Gp Ak Sp PFnAppendParse
set_option linter.unusedVariables false
set_option linter.unusedSimpArgs false
def TVal (t : ByteArray) (n : Int) (T : JT) : Prop :=
  T.raw = t.extract 0 n.toNat ∧ 1 ≤ n ∧ n ≤ (t.size : Int) ∧
  ((T.kind = 3 ∧ bt t 0 = 34 ∧ ∃ l, strR t 1 = some (l, T.pairs, n) ∧ T.str = strOfNums l) ∨
   (T.kind = 5 ∧ (bt t 0 = 123 ∨ bt t 0 = 91) ∧ SqTo t (t.extract 0 n.toNat)) ∨
   (T.kind = 2 ∧ (bt t 0 = 45 ∨ 48 ≤ bt t 0 ∧ bt t 0 ≤ 57) ∧ NumS (t.extract 0 n.toNat) ∧ (∀ x, 1 ≤ x → x < n → ¬ stopc (bt t x)) ∧ (n < (t.size : Int) → stopc (bt t n))) ∨
   ((T.kind = 4 ∧ bt t 0 = 116 ∨ T.kind = 1 ∧ bt t 0 = 102 ∨ T.kind = 0 ∧ bt t 0 = 110) ∧ (∀ x, 1 ≤ x → x < n → 97 ≤ bt t x ∧ bt t x ≤ 122) ∧ (n < (t.size : Int) → ¬ (97 ≤ bt t n ∧ bt t n ≤ 122))))
inductive TToks (u : ByteArray) : Int → List JT → Prop where
  | skip {p : Int} {l : List JT} (hlt : p < (u.size : Int)) (h : bt u p ≤ 32 ∨ bt u p = 44 ∨ bt u p = 58) (hr : TToks u (p + 1) l) : TToks u p l
  | stop {p : Int} (hlt : p < (u.size : Int)) (h : bt u p = 93 ∨ bt u p = 125) : TToks u p []
  | val {p n : Int} {T : JT} {l : List JT} (hv : TVal (u.extract p.toNat u.size) n T) (hr : TToks u (p + n) l) : TToks u p (T :: l)
theorem word_bytes {kind : Int} {x : ByteArray} (hx : kind = 4 ∧ x = (⟨#[116, 114, 117, 101]⟩ : ByteArray) ∨ kind = 1 ∧ x = (⟨#[102, 97, 108, 115, 101]⟩ : ByteArray) ∨ kind = 0 ∧ x = (⟨#[110, 117, 108, 108]⟩ : ByteArray)) :
    (kind = 4 ∧ bt x 0 = 116 ∨ kind = 1 ∧ bt x 0 = 102 ∨ kind = 0 ∧ bt x 0 = 110) ∧ 1 ≤ (x.size : Int) ∧ ∀ q : Int, 0 ≤ q → q < (x.size : Int) → 97 ≤ bt x q ∧ bt x q ≤ 122 := by
  have h5 : x.size ≤ 5 := by rcases hx with ⟨_, rfl⟩ | ⟨_, rfl⟩ | ⟨_, rfl⟩ <;> decide
  refine ⟨?_, ?_, fun q h1 h2 => ?_⟩
  · rcases hx with ⟨rfl, rfl⟩ | ⟨rfl, rfl⟩ | ⟨rfl, rfl⟩
    · exact .inl ⟨rfl, by decide⟩
    · exact .inr (.inl ⟨rfl, by decide⟩)
    · exact .inr (.inr ⟨rfl, by decide⟩)
  · rcases hx with ⟨rfl, rfl⟩ | ⟨rfl, rfl⟩ | ⟨rfl, rfl⟩ <;> decide
  · have h3 : q = 0 ∨ q = 1 ∨ q = 2 ∨ q = 3 ∨ q = 4 := by omega
    rcases hx with ⟨_, rfl⟩ | ⟨_, rfl⟩ | ⟨_, rfl⟩ <;> rcases h3 with rfl | rfl | rfl | rfl | rfl <;> first | (constructor <;> decide) | exact absurd h2 (by decide)
theorem stop_az {c : Int} (h : stopc c) : ¬ (97 ≤ c ∧ c ≤ 122) := by unfold stopc at h; omega
theorem tval_of {s : ByteArray} (hs : (s.size : Int) ≤ 65536) {p j : Int} {T : JT} (h0 : 0 ≤ p) (hj1 : p + 1 ≤ j) (hj2 : j ≤ (s.size : Int)) (h : Val s p j T) : TVal (s.extract p.toNat s.size) (j - p) T := by
  have hb := tail_bt (s := s) h0 (by omega : p ≤ (s.size : Int))
  have hz := tail_size (s := s) h0 (by omega : p ≤ (s.size : Int))
  have hc := tail_cut (u := s) h0 (by omega : p ≤ j) hj2
  have hb0 : bt (s.extract p.toNat s.size) 0 = bt s p := by rw [hb 0 (Int.le_refl _), Int.add_zero]
  have hbn : bt (s.extract p.toNat s.size) (j - p) = bt s j := by rw [hb _ (by omega)]; congr 1; omega
  unfold TVal
  rw [hc, hb0, hz]
  cases h with
  | str l pr hq hr => exact ⟨rfl, by omega, by omega, .inl ⟨rfl, hq, l, strR_tail h0 (by omega) hr, rfl⟩⟩
  | word kind x hx hw hjx hst =>
    obtain ⟨h1, h2, h3⟩ := word_bytes hx
    have hw0 := hw 0 (Int.le_refl _) (by omega)
    rw [Int.add_zero] at hw0
    refine ⟨rfl, by omega, by omega, .inr (.inr (.inr ⟨by rw [hw0]; exact h1, fun y h4 h5 => ?_, fun _ => by rw [hbn]; exact stop_az hst⟩))⟩
    rw [hb y (by omega), hw y (by omega) (by omega)]
    exact h3 y (by omega) (by omega)
  | list K I P hq _ _ sq =>
    refine ⟨rfl, by omega, by omega, .inr (.inl ⟨rfl, hq, ?_⟩)⟩
    have e : s.extract p.toNat s.size = s.extract p.toNat j.toNat ++ s.extract j.toNat s.size := by
      rw [ByteArray.extract_append_extract]
      congr 1
      · omega
      · omega
    rw [e]
    refine sq _ ?_
    rw [ByteArray.size_extract]
    omega
  | num hn hjn hst =>
    have hg := (num_gt hn).2
    have hle := nSign_le (s := s) (i := p) (by omega)
    refine ⟨rfl, by omega, by omega, .inr (.inr (.inl ⟨rfl, ?_, ?_, fun x h4 h5 => ?_, fun _ => by rw [hbn]; exact hst⟩))⟩
    · unfold nSign at hg
      by_cases c : bt s p = 45
      · exact .inl c
      · rw [if_neg c] at hg
        exact .inr (dg_iff.mp hg)
    · rw [hjn]
      exact (num_text h0 (by omega) hn (by omega)).1
    · rw [hb x (by omega)]
      exact numc_go (num_bytes (i := p) (by omega) (by omega))
theorem toks_lt {s : ByteArray} {p : Int} {l : List JT} (h : Toks s p l) : p < (s.size : Int) := by
  cases h with
  | skip hlt => exact hlt
  | stop h => exact lt_of_bt (by omega)
  | val hv hj => omega
theorem ttoks_of {s : ByteArray} (hs : (s.size : Int) ≤ 65536) {i0 : Int} (h0 : 0 ≤ i0) {q : Int} {l : List JT} (h : Toks s q l) : i0 ≤ q → TToks (s.extract i0.toNat s.size) (q - i0) l := by
  have h1 := toks_lt h
  induction h with
  | @skip p l hlt h hr ih =>
    intro hq
    have h2 := toks_lt hr
    have hb := tail_bt (s := s) h0 (by omega : i0 ≤ (s.size : Int)) (p - i0) (by omega)
    have hz := tail_size (s := s) h0 (by omega : i0 ≤ (s.size : Int))
    rw [show i0 + (p - i0) = p by omega] at hb
    refine .skip (by omega) (by rw [hb]; exact h) ?_
    rw [show p - i0 + 1 = p + 1 - i0 by omega]
    exact ih h2 (by omega)
  | @stop p h =>
    intro hq
    have hb := tail_bt (s := s) h0 (by omega : i0 ≤ (s.size : Int)) (p - i0) (by omega)
    have hz := tail_size (s := s) h0 (by omega : i0 ≤ (s.size : Int))
    rw [show i0 + (p - i0) = p by omega] at hb
    exact .stop (by omega) (by rw [hb]; exact h)
  | @val p j T l hv hj hr ih =>
    intro hq
    have h2 := toks_lt hr
    have hv2 := tval_of hs (by omega) hj.1 hj.2 hv
    have e : (s.extract i0.toNat s.size).extract (p - i0).toNat (s.extract i0.toNat s.size).size = s.extract p.toNat s.size := by
      rw [ByteArray.extract_extract, ByteArray.size_extract]
      congr 1
      · omega
      · omega
    refine .val (n := j - p) (by rw [e]; exact hv2) ?_
    rw [show p - i0 + (j - p) = j - i0 by omega]
    exact ih h2 (by omega)
theorem ttoks_len {u : ByteArray} {p : Int} {l : List JT} (h : TToks u p l) : (l.length : Int) ≤ (u.size : Int) - p := by
  induction h with
  | skip hlt h hr ih => omega
  | stop hlt h => simp only [List.length_nil]; omega
  | val hv hr ih =>
    have := hv.2.1
    simp only [List.length_cons]
    omega
def RV (T : JT) (cs : List Value) : Prop := ∃ (b : ByteArray) (c : Nat) (d : Int), cs = [.int .i64 T.kind, .string T.raw, .string b, .float .f64 c, .int .i64 d, .slice none 0 0] ∧ (T.kind = 3 → T.pairs = true → b = T.str) ∧ (T.kind ≠ 0 ∨ 0 < T.raw.size)
def VV (T : JT) (cs : List Value) : Prop := ∃ (b : ByteArray) (c : Nat) (d : Int), cs = [.int .i64 T.kind, .string T.raw, .string b, .float .f64 c, .int .i64 d, .bool true]
inductive Rows (R : JT → List Value → Prop) : List JT → List Value → Prop where
  | nil : Rows R [] []
  | snoc {L : List JT} {xs : List Value} {T : JT} {cs : List Value} (h : Rows R L xs) (hc : R T cs) : Rows R (L ++ [T]) (xs ++ cs)
theorem RV.len {T : JT} {cs : List Value} (h : RV T cs) : cs.length = 6 := by
  obtain ⟨b, c, d, rfl, _⟩ := h
  rfl
theorem VV.len {T : JT} {cs : List Value} (h : VV T cs) : cs.length = 6 := by
  obtain ⟨b, c, d, rfl⟩ := h
  rfl
section
variable {R : JT → List Value → Prop} (hR : ∀ T cs, R T cs → cs.length = 6)
include hR
end
def RowOf (R : JT → List Value → Prop) (e : TypeId) (w : World) (B : Nat) (av : Value) (L : List JT) : Prop := ∃ xs, Rows R L xs ∧ w.ownsRow B e 6 av L.length xs
abbrev ResRow (w : World) (B : Nat) (av : Value) (L : List JT) : Prop := RowOf RV 50 w B av L
section
variable {R : JT → List Value → Prop} {e : TypeId} {w : World} {B : Nat}
end
end Go.Proofs.YtldfejbmdonaoaaGreatDoor.Al
namespace Go.Proofs.YtldfejbmdonaoaaGreatDoor.Am
open Go.RowKit YtldfejbmdonaoaaGreatDoorW.PrintWords YtldfejbmdonaoaaGreatDoorW.PrintLast YtldfejbmdonaoaaGreatDoorW.PrintMore Tw Tp Te At Pz Nx Gp Gv Ak Al PFnAppendParse
set_option linter.unusedVariables false
set_option linter.unusedSimpArgs false
theorem ttoks_lt {u : ByteArray} {p : Int} {l : List JT} (h : TToks u p l) : p < (u.size : Int) := by
  cases h with
  | skip hlt => exact hlt
  | stop hlt => exact hlt
  | @val p n T l hv hr =>
    have h1 := hv.2.1
    have h2 := hv.2.2.1
    rw [ByteArray.size_extract] at h2
    omega
theorem ttoks_cases {u : ByteArray} {p : Int} {L : List JT} (h : TToks u p L) : ((bt u p ≤ 32 ∨ bt u p = 44 ∨ bt u p = 58) ∧ TToks u (p + 1) L) ∨ ((bt u p = 93 ∨ bt u p = 125) ∧ L = []) ∨ (∃ n T l, L = T :: l ∧ TVal (u.extract p.toNat u.size) n T ∧ TToks u (p + n) l) := by
  cases h with
  | skip hlt h hr => exact .inl ⟨h, hr⟩
  | stop hlt h => exact .inr (.inl ⟨h, rfl⟩)
  | val hv hr => exact .inr (.inr ⟨_, _, _, rfl, hv, hr⟩)
theorem five (w : World) (o1 o2 o3 o4 : Obj) :
    (((((w.alloc o1).alloc o2).alloc o3).alloc o4).alloc (.cells #[] 50)).heap[w.heap.size]? = some o1 ∧ (((((w.alloc o1).alloc o2).alloc o3).alloc o4).alloc (.cells #[] 50)).heap[w.heap.size + 1]? = some o2 ∧ (((((w.alloc o1).alloc o2).alloc o3).alloc o4).alloc (.cells #[] 50)).heap[w.heap.size + 1 + 1]? = some o3 ∧
    (((((w.alloc o1).alloc o2).alloc o3).alloc o4).alloc (.cells #[] 50)).heap[w.heap.size + 1 + 1 + 1]? = some o4 ∧ Below w.heap.size w (((((w.alloc o1).alloc o2).alloc o3).alloc o4).alloc (.cells #[] 50)) ∧
    (((((w.alloc o1).alloc o2).alloc o3).alloc o4).alloc (.cells #[] 50)).ownsRow (w.heap.size + 1 + 1 + 1 + 1) 50 6 (.slice (some ⟨w.heap.size + 1 + 1 + 1 + 1, 0, none⟩) 0 0) 0 [] := by
  have s1 : (w.alloc o1).heap.size = w.heap.size + 1 := by simp
  have s2 : ((w.alloc o1).alloc o2).heap.size = w.heap.size + 1 + 1 := by simp
  have s3 : (((w.alloc o1).alloc o2).alloc o3).heap.size = w.heap.size + 1 + 1 + 1 := by simp
  have s4 : ((((w.alloc o1).alloc o2).alloc o3).alloc o4).heap.size = w.heap.size + 1 + 1 + 1 + 1 := by simp
  have h1 := heap_alloc_new w o1
  have h2 := heap_alloc_new (w.alloc o1) o2
  have h3 := heap_alloc_new ((w.alloc o1).alloc o2) o3
  have h4 := heap_alloc_new (((w.alloc o1).alloc o2).alloc o3) o4
  have h5 := World.ownsRow_made (base := w.heap.size + 1 + 1 + 1 + 1) (e := 50) (size := 6) ((((w.alloc o1).alloc o2).alloc o3).alloc o4) #[] 0 (by omega) (by decide) (by simp)
  rw [s1] at h2
  rw [s2] at h3
  rw [s3] at h4
  rw [s4] at h5
  exact ⟨blk_alloc (blk_alloc (blk_alloc (blk_alloc h1 o2) o3) o4) _, blk_alloc (blk_alloc (blk_alloc h2 o3) o4) _, blk_alloc (blk_alloc h3 o4) _, blk_alloc h4 _, ((((((Below.refl _ _).alloc (Nat.le_refl _) o1).alloc (by omega) o2).alloc (by omega) o3).alloc (by omega) o4).alloc (by omega) _), h5⟩
def AMem (w wr : World) (tb rb vb B : Nat) (u b : ByteArray) (c : Nat) (d : Int) (av : Value) (L0 : List JT) (V : Array Value) : Prop :=
  wr.heap[tb]? = some (.cells #[.int .i64 5, .string u, .string b, .float .f64 c, .int .i64 d, .slice none 0 0] 50 (0, 0)) ∧
  wr.heap[rb]? = some (.cells #[av, .slice none 0 0, .map none, .map none, .int .u8 91] 75 (0, 0)) ∧
  wr.heap[vb]? = some (.cells V 50 (0, 0)) ∧
  ResRow wr B av L0 ∧ Below tb w wr ∧ B ≤ wr.heap.size
def Boxes (tb rb vb kb B : Nat) : Prop := tb + 1 = rb ∧ rb + 1 = vb ∧ vb + 1 = kb ∧ kb + 1 = B
theorem resrow_keep {R : JT → List Value → Prop} {e : TypeId} {w w' : World} {B : Nat} {av : Value} {L : List JT} (h : RowOf R e w B av L) (hk : ∀ q, B ≤ q → q < w.heap.size → w'.heap[q]? = w.heap[q]?) : RowOf R e w' B av L := by
  obtain ⟨xs, h1, h2⟩ := h
  exact ⟨xs, h1, own_keep h2 fun q hq => hk q (own_base h2 q hq) (own_lt h2 q hq)⟩
section
variable {w wr : World} {tb rb vb kb B : Nat} {u b : ByteArray} {c : Nat} {d : Int} {av : Value} {L0 : List JT} {V : Array Value} (hx : Boxes tb rb vb kb B)
include hx
theorem AMem.set (h : AMem w wr tb rb vb B u b c d av L0 V) (j : Nat) (x : Value) : AMem w (wr.setCell ⟨vb, j, none⟩ x) tb rb vb B u b c d av L0 (V.setIfInBounds j x) := by
  obtain ⟨h1, h2, h3, h4, h5, h6⟩ := h
  obtain ⟨x1, x2, x3, x4⟩ := hx
  exact ⟨blk_far h1 (by show tb ≠ vb; omega) _, blk_far h2 (by show rb ≠ vb; omega) _, blk_set h3 j x, resrow_keep h4 fun q hq _ => Below.heap_setCell _ _ _ _ (by show q ≠ vb; omega), h5.setCell (by show tb ≤ vb; omega) _, by simpa [World.setCell] using h6⟩
theorem AMem.below {w5 : World} (h : AMem w wr tb rb vb B u b c d av L0 V) (hb : Below wr.heap.size wr w5) : AMem w w5 tb rb vb B u b c d av L0 V := by
  obtain ⟨h1, h2, h3, h4, h5, h6⟩ := h
  obtain ⟨x1, x2, x3, x4⟩ := hx
  have := blk_lt h1
  exact ⟨blk_below h1 hb, blk_below h2 hb, blk_below h3 hb, resrow_keep h4 fun q _ hq => hb.block q hq, below_then h5 (by omega) hb, Nat.le_trans h6 hb.size⟩
end
theorem AMem.append {w W3 w4 : World} {tb rb vb kb B : Nat} {u b : ByteArray} {c : Nat} {d : Int} {av v1 : Value} {L0 : List JT} {V : Array Value} {T : JT} {xs ys : List Value} (hx : Boxes tb rb vb kb B) (h : AMem w W3 tb rb vb B u b c d av L0 V) (hr : Al.Rows RV L0 xs) (hown : W3.ownsRow B 50 6 av L0.length xs) (hv : RV T ys)
    (ho1 : w4.ownsRow B 50 6 v1 (L0.length + 1) (xs ++ ys)) (hg : W3.grownBy w4 av.ownBlock) : AMem w (w4.setCell ⟨rb, 0, none⟩ v1) tb rb vb B u b c d v1 (L0 ++ [T]) V := by
  obtain ⟨h1, h2, h3, h4, h5, h6⟩ := h
  obtain ⟨x1, x2, x3, x4⟩ := hx
  have no : ∀ g, g < B → some g ≠ av.ownBlock := fun g hg e => by
    have := own_base hown g e.symm
    omega
  have hlt := blk_lt h1
  refine ⟨blk_far (blk_grown h1 hg (no tb (by omega))) (by show tb ≠ rb; omega) _, ?_, blk_far (blk_grown h3 hg (no vb (by omega))) (by show vb ≠ rb; omega) _, ?_, ?_, ?_⟩
  · have := blk_set (blk_grown h2 hg (no rb (by omega))) 0 v1
    simpa using this
  · refine ⟨xs ++ ys, .snoc hr hv, ?_⟩
    rw [List.length_append, List.length_singleton]
    exact own_keep ho1 fun q hq => Below.heap_setCell _ _ _ _ (by have := own_base ho1 q hq; show q ≠ rb; omega)
  · exact (h5.grown hg (by omega) (fun q hq => by have := own_base hown q hq; omega)).setCell (by show tb ≤ rb; omega) _
  · have := hg.size
    simp only [World.setCell, Array.size_modify]
    omega
theorem tval_first {t : ByteArray} {n : Int} {T : JT} (h : TVal t n T) : 33 ≤ bt t 0 ∧ bt t 0 ≠ 93 ∧ bt t 0 ≠ 125 := by
  rcases h.2.2.2 with ⟨_, h, _⟩ | ⟨_, h, _⟩ | ⟨_, h, _⟩ | ⟨h, _⟩ <;> omega
end Go.Proofs.YtldfejbmdonaoaaGreatDoor.Am