/- Joined by a program of mine from texts of this claim: Pz, Nx, Gp, Gv, Gn. -/
import Derived.Test.YtldfejbmdonaoaaDoorV33
import Derived.Test.YtldfejbmdonaoaaDoorV15
import Derived.Test.YtldfejbmdonaoaaDoorV19
import Derived.Deep.CutBlock
import Derived.Deep.DeepCutAuto
namespace Go.Proofs.YtldfejbmdonaoaaDoor.Pz
open Go.RowKit YtldfejbmdonaoaaDoorW.PrintWords YtldfejbmdonaoaaDoorW.PrintLast YtldfejbmdonaoaaDoorW.PrintMore At
set_option linter.unusedVariables false
set_option linter.unusedSimpArgs false
structure ErrVars (W : World) (lim : Nat) : Prop where
  mk :: (out : 1 < lim ∧ 2 < lim ∧ (∃ t p, W.cell? ⟨1, 0, none⟩ = some (.iface t p)) ∧ (∃ t p, W.cell? ⟨2, 0, none⟩ = some (.iface t p)))
theorem ErrVars.below {W W' : World} {lim : Nat} (h : ErrVars W lim) (hb : Below lim W W') : ErrVars W' lim := by
  obtain ⟨h1, h2, ⟨t, p, h3⟩, ⟨t', p', h4⟩⟩ := h.out
  exact ⟨h1, h2, ⟨t, p, by rw [hb.cell (p := ⟨_, 0, none⟩) h1]; exact h3⟩, ⟨t', p', by rw [hb.cell (p := ⟨_, 0, none⟩) h2]; exact h4⟩⟩
theorem ErrVars.mono {W : World} {lim lim' : Nat} (h : ErrVars W lim) (hl : lim ≤ lim') : ErrVars W lim' := by
  obtain ⟨h1, h2, r⟩ := h.out
  exact ⟨by omega, by omega, r⟩
set_option maxRecDepth 100000 in
set_option maxHeartbeats 4000000 in
theorem prefix_walk (s : ByteArray) (w : World) (hN : NumS s) (hT : Tabs w w.heap.size) :
    Calls Tryd.prog 57 #[.string s, .int .i64 64] w (AtPost s w) := by
  have HA := Aside0.mk (atof64_walk s w hN hT)
  clear hN hT
  go_enter Tryd.func57, Tryd.ntmps57
  go_wp2_with fail
  refine HA.out.mono ?_
  rintro e w1 ⟨x, n, er, rfl, her, hb⟩
  have HE := Aside0.mk her
  have HB := Aside0.mk hb
  clear her hb
  go_wp2
  go_ret3
  exact ⟨x, n, er, rfl, HE.out, HB.out⟩
def FlPost (s : ByteArray) (w : World) (e : Ending) (w' : World) : Prop := ∃ (x : Nat) (er : Value), e = .returned (.tuple #[.float .f64 x, er]) ∧ (ErrW er ∧ ExactV s x (s.size : Int) er) ∧ Below w.heap.size w w'
set_option maxRecDepth 100000 in
set_option maxHeartbeats 4000000 in
theorem inner_walk (s : ByteArray) (w : World) (hN : NumS s) (hT : Tabs w w.heap.size) :
    Calls Tryd.prog 45 #[.string s, .int .i64 64] w (FlPost s w) := by
  have HA := Aside0.mk (prefix_walk s w hN hT)
  clear hN hT
  go_enter Tryd.func45, Tryd.ntmps45
  go_wp2_with fail
  refine HA.out.mono ?_
  rintro e w1 ⟨x, n, er, rfl, her, hb⟩
  have HE := Aside0.mk her
  have HB := Aside0.mk hb
  clear her hb
  by_cases hn : n = (s.size : Int)
  · have d1 : (n != (s.size : Int)) = false := bne_eq_false_iff_eq.mpr hn
    clear hn
    go_wp2
    go_ret2
    exact ⟨x, er, rfl, ⟨HE.out.1, fun j hj h1 h2 => ⟨(HE.out.2.1 j hj h1 h2).1, rfl, (HE.out.2.1 j hj h1 h2).2.2⟩, fun j hj h1 h2 => ⟨(HE.out.2.2 j hj h1 h2).1, rfl, (HE.out.2.2 j hj h1 h2).2.2⟩⟩, HB.out⟩
  · have d1 : (n != (s.size : Int)) = true := bne_iff_ne.mpr hn
    have HNN := Aside0.mk hn
    clear hn
    go_wp2
    go_ret2
    exact ⟨_, _, rfl, ⟨.inr (.inr rfl), fun j hj h1 h2 => absurd (HE.out.2.1 j hj h1 h2).2.1 HNN.out, fun j hj h1 h2 => absurd (HE.out.2.2 j hj h1 h2).2.1 HNN.out⟩, HB.out⟩
def PFPost (s : ByteArray) (w : World) (e : Ending) (w' : World) : Prop := ∃ (x : Nat) (er : Value), e = .returned (.tuple #[.float .f64 x, er]) ∧ ExactX s x ∧ Below w.heap.size w w'
set_option maxRecDepth 100000 in
set_option maxHeartbeats 4000000 in
theorem float_walk (s : ByteArray) (w : World) (hN : NumS s) (hT : Tabs w w.heap.size) (hV : ErrVars w w.heap.size) :
    Calls Tryd.prog 34 #[.string s, .int .i64 64] w (PFPost s w) := by
  have HA := Aside0.mk (inner_walk s w hN hT)
  have HS := Aside0.mk (show s.size ≤ 281474976710656 by have := hN.size; omega)
  have HV := Aside0.mk hV
  clear hN hT hV
  go_enter Tryd.func34, Tryd.ntmps34
  go_wp2_with fail
  refine HA.out.mono ?_
  rintro e w1 ⟨x, er, rfl, ⟨her, hexv⟩, hb⟩
  have HEX := Aside0.mk (show ExactX s x from ⟨fun j hj h1 h2 => (hexv.1 j hj h1 h2).1, fun j hj h1 h2 => (hexv.2 j hj h1 h2).1⟩)
  have HB := Aside0.mk hb
  obtain ⟨_, _, ⟨t1, p1, hv1⟩, ⟨t2, p2, hv2⟩⟩ := (HV.out.below hb).out
  have HV1 := Aside0.mk hv1
  have HV2 := Aside0.mk hv2
  clear hb hv1 hv2 hexv
  rcases her with rfl | rfl | rfl
  · go_wp2
    go_ret2
    exact ⟨x, _, rfl, HEX.out, HB.out⟩
  · go_wp2_with fail
    refine (Sw.strconv_toError_range _ s _ _ _ w1 HS.out HV2.out (.inr ⟨_, _, rfl⟩)).mono ?_
    rintro e w2 ⟨N, rfl, _, _, hb⟩
    have HB2 := Aside0.mk (below_then HB.out HB.out.size hb)
    clear hb
    go_wp2
    go_ret2
    exact ⟨x, _, rfl, HEX.out, HB2.out⟩
  · go_wp2_with fail
    refine (Sw.strconv_toError_syntax _ s _ _ _ w1 HS.out HV1.out (.inr ⟨_, _, rfl⟩)).mono ?_
    rintro e w2 ⟨N, rfl, _, _, hb⟩
    have HB2 := Aside0.mk (below_then HB.out HB.out.size hb)
    clear hb
    go_wp2
    go_ret2
    exact ⟨x, _, rfl, HEX.out, HB2.out⟩
end Go.Proofs.YtldfejbmdonaoaaDoor.Pz
namespace Go.Proofs.YtldfejbmdonaoaaDoor.Nx
open Go.RowKit YtldfejbmdonaoaaDoorW.PrintWords YtldfejbmdonaoaaDoorW.PrintLast YtldfejbmdonaoaaDoorW.PrintMore Tp At Pz
set_option linter.unusedVariables false
set_option linter.unusedSimpArgs false
def numc (c : Int) : Prop := 48 ≤ c ∧ c ≤ 57 ∨ c = 45 ∨ c = 43 ∨ c = 46 ∨ c = 101 ∨ c = 69
theorem run_all {p : Int → Bool} {s : ByteArray} : ∀ (n : Nat) (i x : Int), i ≤ x → x < run p s n i → p (bt s x) = true
  | 0, i, x, h0, h1 => by simp [run] at h1; omega
  | n + 1, i, x, h0, h1 => by
    unfold run at h1
    by_cases hp : p (bt s i) = true
    · rw [if_pos hp] at h1
      by_cases e : x = i
      · subst e; exact hp
      · exact run_all n (i + 1) x (by omega) h1
    · rw [if_neg hp] at h1; omega
theorem runEnd_all {p : Int → Bool} {s : ByteArray} {i x : Int} (h0 : i ≤ x) (h1 : x < runEnd p s i) : p (bt s x) = true := run_all _ i x h0 h1
theorem dg_iff {c : Int} : dg c = true ↔ 48 ≤ c ∧ c ≤ 57 := by simp [dg]
theorem dgc {c : Int} (h : dg c = true) : numc c := .inl (dg_iff.mp h)
section
variable {s : ByteArray}
theorem sign_c {i x : Int} (h0 : i ≤ x) (h1 : x < nSign s i) : numc (bt s x) := by
  unfold nSign at h1
  by_cases h : bt s i = 45
  · rw [if_pos h] at h1
    obtain rfl : x = i := by omega
    exact .inr (.inl h)
  · rw [if_neg h] at h1; omega
theorem int_c {i x : Int} (h0 : i ≤ x) (h1 : x < nInt s i) : numc (bt s x) := by
  unfold nInt at h1
  by_cases h : bt s i = 48
  · rw [if_pos h] at h1
    obtain rfl : x = i := by omega
    exact .inl (by omega)
  · rw [if_neg h] at h1; exact dgc (runEnd_all h0 h1)
theorem frac_c {i x : Int} (h0 : i ≤ x) (h1 : x < nFrac s i) : numc (bt s x) := by
  unfold nFrac at h1
  by_cases h : bt s i = 46
  · rw [if_pos h] at h1
    by_cases e : x = i
    · subst e; exact .inr (.inr (.inr (.inl h)))
    · exact dgc (runEnd_all (by omega) h1)
  · rw [if_neg h] at h1; omega
theorem at_c {i x : Int} (h0 : i ≤ x) (h1 : x < nAt s i) : numc (bt s x) := by
  unfold nAt at h1
  by_cases h : bt s i = 43
  · rw [if_pos h] at h1
    obtain rfl : x = i := by omega
    exact .inr (.inr (.inl h))
  · rw [if_neg h] at h1
    by_cases h2 : bt s i = 45
    · rw [if_pos h2] at h1
      obtain rfl : x = i := by omega
      exact .inr (.inl h2)
    · rw [if_neg h2] at h1; omega
theorem exp_c {i x : Int} (h0 : i ≤ x) (h1 : x < nExp s i) : numc (bt s x) := by
  unfold nExp at h1
  by_cases h : isE (bt s i) = true
  · rw [if_pos h] at h1
    by_cases e : x = i
    · subst e
      simp [isE] at h
      rcases h with h | h
      · exact .inr (.inr (.inr (.inr (.inl h))))
      · exact .inr (.inr (.inr (.inr (.inr h))))
    · by_cases h2 : x < nAt s (i + 1)
      · exact at_c (by omega) h2
      · exact dgc (runEnd_all (by omega) h1)
  · rw [if_neg h] at h1; omega
theorem num_bytes {i x : Int} (h0 : i ≤ x) (h1 : x < numEnd s i) : numc (bt s x) := by
  unfold numEnd at h1
  by_cases a1 : x < nSign s i
  · exact sign_c h0 a1
  by_cases a2 : x < nInt s (nSign s i)
  · exact int_c (by omega) a2
  by_cases a3 : x < nFrac s (nInt s (nSign s i))
  · exact frac_c (by omega) a3
  · exact exp_c (by omega) h1
theorem int_gt {i : Int} (h : dg (bt s i) = true) : i + 1 ≤ nInt s i := by
  unfold nInt
  by_cases h2 : bt s i = 48
  · rw [if_pos h2]; omega
  · rw [if_neg h2, runEnd_step (lt_of_bt (by have := dg_iff.mp h; omega)) h]
    exact runEnd_ge
theorem frac_ge (i : Int) : i ≤ nFrac s i := by
  unfold nFrac
  split
  · have := runEnd_ge (p := dg) (s := s) (i := i + 1); omega
  · omega
theorem at_ge (i : Int) : i ≤ nAt s i := by unfold nAt; split <;> (try split) <;> omega
theorem exp_ge (i : Int) : i ≤ nExp s i := by
  unfold nExp
  split
  · have h1 := at_ge (s := s) (i + 1)
    have := runEnd_ge (p := dg) (s := s) (i := nAt s (i + 1)); omega
  · omega
theorem num_gt {i : Int} (hb : numBad s i = false) : nSign s i + 1 ≤ numEnd s i ∧ dg (bt s (nSign s i)) = true := by
  have hd : dg (bt s (nSign s i)) = true := by
    unfold numBad at hb
    simp only [Bool.or_eq_false_iff, Bool.not_eq_false'] at hb
    exact hb.1.1
  have h1 := int_gt hd
  have h2 := frac_ge (s := s) (nInt s (nSign s i))
  have h3 := exp_ge (s := s) (nFrac s (nInt s (nSign s i)))
  exact ⟨by unfold numEnd; omega, hd⟩
theorem or32 {c : Int} (h : numc c ∨ c = 0) : (bits BinOp.or IntKind.u8 c 32 == 120) = false := by
  have : c = 48 ∨ c = 49 ∨ c = 50 ∨ c = 51 ∨ c = 52 ∨ c = 53 ∨ c = 54 ∨ c = 55 ∨ c = 56 ∨ c = 57 ∨ c = 45 ∨ c = 43 ∨ c = 46 ∨ c = 101 ∨ c = 69 ∨ c = 0 := by unfold numc at h; omega
  rcases this with rfl | rfl | rfl | rfl | rfl | rfl | rfl | rfl | rfl | rfl | rfl | rfl | rfl | rfl | rfl | rfl <;> decide
theorem bt_neg {u : ByteArray} {x : Int} : bt u x = bt u (x.toNat : Int) := by unfold bt; simp only [Int.toNat_natCast]
theorem num_text {i : Int} (h0 : 0 ≤ i) (hs : (s.size : Int) ≤ 70000) (hb : numBad s i = false) (h1 : i ≤ (s.size : Int)) : NumS (s.extract i.toNat (numEnd s i).toNat) ∧ i + 1 ≤ numEnd s i ∧ numEnd s i ≤ (s.size : Int) := by
  obtain ⟨hg, hd⟩ := num_gt hb
  have hle := (numEnd_le h1).2
  have hsg := nSign_le h1
  have hsz : ((s.extract i.toNat (numEnd s i).toNat).size : Int) = numEnd s i - i := by rw [ByteArray.size_extract]; omega
  have hbt : ∀ x : Int, 0 ≤ x → x < numEnd s i - i → bt (s.extract i.toNat (numEnd s i).toNat) x = bt s (i + x) := by
    intro x hx0 hx1
    have := Bt.bt_extract (s := s) (a := i.toNat) (b := (numEnd s i).toNat) (by omega) (j := x.toNat) (by omega)
    rw [show ((x.toNat : Nat) : Int) = x by omega, show ((i.toNat + x.toNat : Nat) : Int) = i + x by omega] at this
    exact this
  have hall : ∀ x, numc (bt (s.extract i.toNat (numEnd s i).toNat) x) ∨ bt (s.extract i.toNat (numEnd s i).toNat) x = 0 := by
    intro x
    rw [bt_neg]
    by_cases hx : (x.toNat : Int) < numEnd s i - i
    · left
      rw [hbt _ (by omega) hx]
      exact num_bytes (i := i) (by omega) (by omega)
    · right
      exact bt_out (by omega)
  refine ⟨⟨by omega, ⟨nSign s i - i, ?_, by omega, ?_, ?_⟩, fun x => ?_, fun x => or32 (hall x)⟩, by omega, hle⟩
  · unfold nSign
    by_cases h : bt s i = 45
    · rw [if_pos h]
      right
      refine ⟨by omega, ?_⟩
      rw [hbt 0 (by omega) (by omega), Int.add_zero]; exact h
    · rw [if_neg h]; left; omega
  · rw [hbt _ (by omega) (by omega), show i + (nSign s i - i) = nSign s i by omega]; exact (dg_iff.mp hd).1
  · rw [hbt _ (by omega) (by omega), show i + (nSign s i - i) = nSign s i by omega]; exact (dg_iff.mp hd).2
  · rcases hall x with h | h
    · unfold numc at h; omega
    · omega
end
def stopc (c : Int) : Prop := c ≤ 32 ∨ c = 44 ∨ c = 93 ∨ c = 125
theorem numc_go {c : Int} (h : numc c) : ¬ stopc c := by unfold numc at h; unfold stopc; omega
end Go.Proofs.YtldfejbmdonaoaaDoor.Nx
namespace Go.Proofs.YtldfejbmdonaoaaDoor.Gp
open Go.RowKit YtldfejbmdonaoaaDoorW.PrintWords YtldfejbmdonaoaaDoorW.PrintLast YtldfejbmdonaoaaDoorW.PrintMore Tp Te Ts
set_option linter.unusedVariables false
set_option linter.unusedSimpArgs false
set_option linter.unusedSectionVars false
@[go_sem] theorem run_store_float {P : Program} {w : World} {a : Addr} {m : Mode} (k : FloatKind) (x : _) : (store a (.float k x) m).run P w = stored P w a (.float k x) m := run_store P w a _ m rfl
section
variable {s v : ByteArray} {a : Int} (h0 : 0 ≤ a) (hb : ∀ x, 0 ≤ x → bt v x = bt s (a + x)) (hz : (v.size : Int) = (s.size : Int) - a)
include h0 hb hz
end
set_option maxRecDepth 100000 in
set_option maxHeartbeats 8000000 in
theorem exists_walk (k : Int) (hk : k ≠ 0) (a b c d f : Value) (w : World) : Calls Tryd.prog 30 #[.agg #[.int .i64 k, a, b, c, d, f]] w fun e w' => e = .returned (.bool true) ∧ Below w.heap.size w w' := by
  have d0 : (k = 0) = False := eq_false hk
  have d1 : (k != 0) = true := bne_iff_ne.mpr hk
  have HB := Aside0.mk ((Below.refl w.heap.size w).alloc (Nat.le_refl _) (Obj.cells #[.int .i64 k, a, b, c, d, f] 51))
  clear hk
  go_enter Tryd.func30, Tryd.ntmps30
  go_wp2
  go_ret
  exact ⟨rfl, HB.out⟩
end Go.Proofs.YtldfejbmdonaoaaDoor.Gp
namespace Go.Proofs.YtldfejbmdonaoaaDoor.Gv
open Go.RowKit YtldfejbmdonaoaaDoorW.PrintWords YtldfejbmdonaoaaDoorW.PrintLast YtldfejbmdonaoaaDoorW.PrintMore Tp Te Gp
set_option linter.unusedVariables false
set_option linter.unusedSimpArgs false
end Go.Proofs.YtldfejbmdonaoaaDoor.Gv
namespace Go.Proofs.YtldfejbmdonaoaaDoor.Gn
open Go.RowKit YtldfejbmdonaoaaDoorW.PrintWords YtldfejbmdonaoaaDoorW.PrintLast YtldfejbmdonaoaaDoorW.PrintMore Tp Te Gp Gv At Pz Nx
set_option linter.unusedVariables false
set_option linter.unusedSimpArgs false
set_option maxRecDepth 100000 in
set_option maxHeartbeats 8000000 in
theorem exists_null (a : ByteArray) (ha : 0 < a.size) (b c d f : Value) (w : World) : Calls Tryd.prog 30 #[.agg #[.int .i64 0, .string a, b, c, d, f]] w fun e w' => e = .returned (.bool true) ∧ Below w.heap.size w w' := by
  have d1 : (a = ByteArray.empty) = False := eq_false (by rintro rfl; exact absurd ha (by decide))
  have d2 : ((a.size : Int) != 0) = true := bne_iff_ne.mpr (by omega)
  have d3 : (0 != (a.size : Int)) = true := bne_iff_ne.mpr (by omega)
  have d4 : ¬ a.size = 0 := by omega
  have HB := Aside0.mk ((Below.refl w.heap.size w).alloc (Nat.le_refl _) (Obj.cells #[.int .i64 0, .string a, b, c, d, f] 51))
  go_enter Tryd.func30, Tryd.ntmps30
  go_wp2
  go_ret
  exact ⟨rfl, HB.out⟩
theorem exists_any (k : Int) (a : ByteArray) (h : k ≠ 0 ∨ 0 < a.size) (b c d f : Value) (w : World) : Calls Tryd.prog 30 #[.agg #[.int .i64 k, .string a, b, c, d, f]] w fun e w' => e = .returned (.bool true) ∧ Below w.heap.size w w' := by
  by_cases hk : k = 0
  · subst hk
    exact exists_null a (h.resolve_left fun h => h rfl) b c d f w
  · exact exists_walk k hk _ b c d f w
structure Lead (u : ByteArray) (i0 : Int) : Prop where
  size : (u.size : Int) ≤ 70000
  lo : 0 ≤ i0
  lt : i0 < (u.size : Int)
  blank : ∀ q, 0 ≤ q → q < i0 → bt u q ≤ 32 ∧ 0 ≤ bt u q
def Shape (u : ByteArray) (i0 K n : Int) : Prop :=
  K = 5 ∧ (bt u i0 = 123 ∨ bt u i0 = 91) ∧ n = (u.size : Int)
  ∨ K = 2 ∧ numBad u i0 = false ∧ n = numEnd u i0 ∧ (n < (u.size : Int) → stopc (bt u n))
  ∨ (K = 4 ∧ bt u i0 = 116 ∧ n = i0 + 4 ∨ K = 1 ∧ bt u i0 = 102 ∧ n = i0 + 5 ∨ K = 0 ∧ bt u i0 = 110 ∧ n = i0 + 4 ∧ bt u (i0 + 1) = 117) ∧ n ≤ (u.size : Int) ∧ (∀ x, i0 < x → x < n → 97 ≤ bt u x ∧ bt u x ≤ 122) ∧ (n < (u.size : Int) → ¬ (97 ≤ bt u n ∧ bt u n ≤ 122))
theorem first_dig {c : Int} (h : dg c = true ∨ c = 45) : c = 45 ∨ c = 48 ∨ c = 49 ∨ c = 50 ∨ c = 51 ∨ c = 52 ∨ c = 53 ∨ c = 54 ∨ c = 55 ∨ c = 56 ∨ c = 57 := by
  rcases h with h | h
  · have := dg_iff.mp h; omega
  · omega
theorem Shape.le {u : ByteArray} {i0 K n : Int} (h : Shape u i0 K n) (hL : Lead u i0) : i0 < n ∧ n ≤ (u.size : Int) := by
  have := hL.lt
  rcases h with ⟨_, _, rfl⟩ | ⟨_, hb, rfl, _⟩ | ⟨h, hle, _⟩
  · omega
  · have h1 := num_gt hb
    have h2 := nSign_le (s := u) (i := i0) (by omega)
    have h3 := numEnd_le (s := u) (i := i0) (by omega)
    omega
  · omega
end Go.Proofs.YtldfejbmdonaoaaDoor.Gn