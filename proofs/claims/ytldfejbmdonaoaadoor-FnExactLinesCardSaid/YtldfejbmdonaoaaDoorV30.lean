/- Joined by a program of mine from texts of this claim: Pf, Fw. -/
import Derived.Test.YtldfejbmdonaoaaDoorV29
import Derived.Test.YtldfejbmdonaoaaDoorV24
import Derived.Laws.ShiftsVarLaws
import Derived.WalkLawsBesides
import Derived.Laws.Externs
import Derived.Laws.BitsLemmas
import Derived.Laws.MathBits
import Derived.Laws.FloatArith
namespace Go.Proofs.YtldfejbmdonaoaaDoor.Pf
open Go.RowKit YtldfejbmdonaoaaDoorW.PrintWords YtldfejbmdonaoaaDoorW.PrintLast YtldfejbmdonaoaaDoorW.PrintMore
set_option linter.unusedVariables false
set_option linter.unusedSimpArgs false
theorem frombits_run (u : Int) (w : World) : (callFunc 80 #[.int .u64 u]).run Tryd.prog w = .ok (.value (.float .f64 u.toNat)) w := by
  rw [run_callFunc_extern (fn := Tryd.f80) (e := Extern.MathFloatBits.float64frombits) (by kernel_rfl) (by kernel_rfl) (by kernel_rfl) (by kernel_rfl) (by kernel_rfl)]
  rfl
def ErrV (e : Value) : Prop := e = .nilIface ∨ e = .iface 96 (.int .i64 1)
def PackPost (w : World) (e : Ending) (w' : World) : Prop := ∃ (x : Nat) (er : Value), e = .returned (.tuple #[.float .f64 x, er]) ∧ ErrV er ∧ Below w.heap.size w w'
set_option maxRecDepth 100000 in
theorem pack_walk (m e : Int) (w : World) (he : -10000 ≤ e) (he2 : e ≤ 10000) : Calls Tryd.prog 99 #[.int .u64 m, .int .i64 e] w (PackPost w) := by
  have HB := Aside0.mk (Below.refl w.heap.size w)
  have hfb := frombits_run
  go_enter Tryd.func99, Tryd.ntmps99
  go_wp2
  all_goals
    go_ret2
    exact ⟨_, _, rfl, (by first | exact .inl rfl | exact .inr rfl), HB.out⟩
set_option maxRecDepth 100000 in
theorem log2_walk (p : Int) (w : World) (h0 : -400 ≤ p) (h1 : p ≤ 400) : Calls Tryd.prog 90 #[.int .i64 p] w fun e w' => e = .returned (.int .i64 (p * 108853 / 32768)) ∧ w = w' := by
  go_enter Tryd.func90, Tryd.ntmps90
  go_wp2
  go_ret
  exact ⟨rfl, rfl⟩
def b2 (b : Bool) : Int := match b with | true => 1 | false => 0
set_option maxRecDepth 100000 in
theorem bool2u_walk (b : Bool) (w : World) : Calls Tryd.prog 79 #[.bool b] w fun e w' => e = .returned (.int .u64 (b2 b)) ∧ w = w' := by
  cases b
  all_goals
    go_enter Tryd.func79, Tryd.ntmps79
    go_wp2
    go_ret
    exact ⟨rfl, rfl⟩
set_option maxRecDepth 100000 in
theorem bool2i_walk (b : Bool) (w : World) : Calls Tryd.prog 93 #[.bool b] w fun e w' => ∃ v, v = b2 b ∧ 0 ≤ v ∧ v ≤ 1 ∧ e = .returned (.int .i64 v) ∧ w = w' := by
  cases b
  all_goals
    go_enter Tryd.func93, Tryd.ntmps93
    go_wp2
    go_ret
    exact ⟨_, rfl, by decide, by decide, rfl, rfl⟩
set_option maxRecDepth 100000 in
theorem unmin_walk (w : World) : Calls Tryd.prog 94 #[.int .u64 9007199254740992] w fun e w' => e = .returned (.int .u64 36028797018963966) ∧ w = w' := by
  go_enter Tryd.func94, Tryd.ntmps94
  go_wp2
  go_ret
  exact ⟨rfl, rfl⟩
def roundF (u : Int) : Int := IntKind.u64.wrap (IntKind.u64.wrap (u + 1) + bits .and .u64 (u / 4) 1) / 4
set_option maxRecDepth 100000 in
theorem round_walk (u : Int) (w : World) : Calls Tryd.prog 96 #[.int .u64 u] w fun e w' => e = .returned (.int .u64 (roundF u)) ∧ w = w' := by
  go_enter Tryd.func96, Tryd.ntmps96
  go_wp2
  go_ret
  exact ⟨rfl, rfl⟩
structure P10 (W : World) (lim : Nat) : Prop where
  mk :: (out : 9 < lim ∧ (∀ j : Nat, j < 696 → ∃ hi lo : Nat, W.cell? ⟨9, j * 2, none⟩ = some (.int .u64 (hi : Int)) ∧ W.cell? ⟨9, j * 2 + 1, none⟩ = some (.int .u64 (lo : Int)) ∧ hi < 18446744073709551616 ∧ lo < 18446744073709551616 ∧ (j = 348 → hi = 9223372036854775808 ∧ lo = 0)))
theorem P10.below {W W' : World} {lim : Nat} (h : P10 W lim) (hb : Below lim W W') : P10 W' lim := by
  obtain ⟨hg, hk⟩ := h.out
  refine ⟨hg, fun j hj => ?_⟩
  obtain ⟨hi, lo, h1, h2, h3⟩ := hk j hj
  exact ⟨hi, lo, by rw [hb.cell (p := ⟨_, _, none⟩) hg]; exact h1, by rw [hb.cell (p := ⟨_, _, none⟩) hg]; exact h2, h3⟩
def Sc (w : World) (b : Nat) (hi lo s : Int) : Prop := w.heap[b]? = some (.cells #[.int .u64 hi, .int .u64 lo, .int .i64 s] 146 (0, 0))
set_option maxRecDepth 100000 in
theorem prescale_walk (w : World) (b : Nat) (e p lp : Int) (h a1 a2 a3 : Int) (hs : Sc w b a1 a2 a3) (hT : P10 w b) (hp0 : -348 ≤ p) (hp1 : p < 348) (he0 : -5000 ≤ e) (he1 : e ≤ 5000) (hl0 : -5000 ≤ lp) (hl1 : lp ≤ 5000) :
    Calls Tryd.prog 91 #[.pointer (some ⟨b, 0, none⟩), .int .i64 e, .int .i64 p, .int .i64 lp] w fun e' w' => e' = .returned (.tuple #[]) ∧ ∃ hi lo : Nat, Sc w' b (hi : Int) (lo : Int) (-(e + lp + 3)) ∧ hi < 18446744073709551616 ∧ lo < 18446744073709551616 ∧ (p = 0 → hi = 9223372036854775808 ∧ lo = 0) ∧ Below b w w' := by
  obtain ⟨hg, hk⟩ := hT.out
  obtain ⟨hi, lo, h1, h2, h3, h4, h5⟩ := hk (p + 348).toNat (by omega)
  have c0 := blk_frozen hs 0
  have c1 := blk_frozen hs 1
  have c2 := blk_frozen hs 2
  have t0 := (blk_cell hs 0).trans (rfl : _ = some (Value.int .u64 a1))
  have t1 := (blk_cell hs 1).trans (rfl : _ = some (Value.int .u64 a2))
  have t2 := (blk_cell hs 2).trans (rfl : _ = some (Value.int .i64 a3))
  have m1 : ¬ (9 = b) := by omega
  have p1 : 0 ≤ p + 348 := by omega
  have p2 : p + 348 < 696 := by omega
  have HH := Aside0.mk (And.intro hs (And.intro h3 (And.intro h4 (And.intro h5 hp0))))
  clear hs hT hg hk h3 h4 h5
  go_enter Tryd.func91, Tryd.ntmps91
  go_wp2
  repeat (go_quiet (fail); try go_wp2)
  first | go_end0 | ((try simp only [Exit.inBlock, Exit.then]); refine bodyPost_ret (results_none rfl _ _ _) rfl ?_)
  refine ⟨rfl, hi, lo, ?_, HH.out.2.1, HH.out.2.2.1, fun e => HH.out.2.2.2.1 (by omega), (((Below.refl _ _).setCell (by simp) _).setCell (by simp) _).setCell (by simp) _⟩
  have hs := HH.out.1
  unfold Sc at hs ⊢
  simpa using blk_set (blk_set (blk_set hs 0 (.int .u64 hi)) 1 (.int .u64 lo)) 2 (.int .i64 (-(e + lp + 3)))
theorem and63 {s : Int} (h0 : 0 ≤ s) (h1 : s < 64) : bits .and .i64 s 63 = s := by
  have h := bits_mask .i64 63 (by decide) (fun n h0 h1 => by rw [IntKind.wrap_i64]; omega) 6 (by omega) s h0 (by omega)
  rw [show (2 : Int) ^ 6 - 1 = 63 by decide, show (2 : Int) ^ 6 = 64 by decide] at h
  omega
def UPost (w : World) (e : Ending) (w' : World) : Prop := ∃ u : Int, e = .returned (.int .u64 u) ∧ Drawn0 w w'
set_option maxRecDepth 100000 in
theorem uscale_walk (w : World) (x : Nat) (b : Nat) (hi lo : Nat) (s : Int) (hx : x < 18446744073709551616) (hs : Sc w b (hi : Int) (lo : Int) s) (hh : hi < 18446744073709551616) (hl : lo < 18446744073709551616) (h0 : 0 ≤ s) (h1 : s < 64) :
    Calls Tryd.prog 92 #[.int .u64 (x : Int), .pointer (some ⟨b, 0, none⟩)] w (UPost w) := by
  have t0 := (blk_cell hs 0).trans (rfl : _ = some (Value.int .u64 (hi : Int)))
  have t1 := (blk_cell hs 1).trans (rfl : _ = some (Value.int .u64 (lo : Int)))
  have t2 := (blk_cell hs 2).trans (rfl : _ = some (Value.int .i64 s))
  have e1 := and63 h0 h1
  have hm : min s.toNat 64 = s.toNat := by omega
  have HW := Aside0.mk (Drawn0.refl w)
  obtain ⟨HI, hHI⟩ : ∃ q : Int, q = ((x * hi / 18446744073709551616 : Nat) : Int) := ⟨_, rfl⟩
  obtain ⟨MI, hMI⟩ : ∃ q : Int, q = ((x * hi % 18446744073709551616 : Nat) : Int) := ⟨_, rfl⟩
  obtain ⟨M2, hM2⟩ : ∃ q : Int, q = ((x * lo / 18446744073709551616 : Nat) : Int) := ⟨_, rfl⟩
  obtain ⟨M3, hM3⟩ : ∃ q : Int, q = ((x * lo % 18446744073709551616 : Nat) : Int) := ⟨_, rfl⟩
  have H1 := Aside0.mk (fun W => by have h := Sw.bits_Mul64 x hi hx hh W; rw [← hHI, ← hMI] at h; exact h)
  have H2 := Aside0.mk (fun W => by have h := Sw.bits_Mul64 x lo hx hl W; rw [← hM2, ← hM3] at h; exact h)
  clear hHI hMI hM2 hM3 hx hs hh hl
  go_enter Tryd.func92, Tryd.ntmps92
  go_wp2_with fail
  refine (H1.out _).mono ?_
  rintro e w5 ⟨rfl, rfl⟩
  go_wp2_with fail
  · go_ret
    exact ⟨_, rfl, HW.out⟩
  · refine (H2.out _).mono ?_
    rintro e w6 ⟨rfl, rfl⟩
    go_wp2_with (go_at_call 79; refine (bool2u_walk _ _).mono ?_; rintro e w7 ⟨rfl, rfl⟩)
    go_quiet ((go_at_call 79; exact Calls.quiet_of_same ((bool2u_walk _ _).mono fun _ _ h => ⟨h.1, h.2.symm⟩)))
    go_wp2
    go_ret
    exact ⟨_, rfl, by repeat (first | exact HW.out | apply Drawn0.step)⟩
theorem uscale_at (w : World) (x : Int) (b : Nat) (hi lo : Nat) (s : Int) (hs : Sc w b (hi : Int) (lo : Int) s) (hh : hi < 18446744073709551616) (hl : lo < 18446744073709551616) (h0 : 0 ≤ s) (h1 : s < 64) (hx0 : 0 ≤ x) (hx1 : x ≤ 18446744073709551615) :
    Calls Tryd.prog 92 #[.int .u64 x, .pointer (some ⟨b, 0, none⟩)] w (UPost w) := by
  have h := uscale_walk w x.toNat b hi lo s (by omega) hs hh hl h0 h1
  rw [show (x.toNat : Int) = x by omega] at h
  exact h
theorem bitLenAux_le : ∀ f x, Lib.bitLenAux f x ≤ f
  | 0, x => by simp [Lib.bitLenAux]
  | f + 1, x => by
    have := bitLenAux_le f (x / 2)
    unfold Lib.bitLenAux
    split <;> omega
theorem bitLen_le {x : Int} (h0 : 0 ≤ x) (h1 : x ≤ 18446744073709551615) : Lib.bitLen x.toNat ≤ 64 := bitLenAux_le 64 _
set_option maxRecDepth 100000 in
set_option maxHeartbeats 4000000 in
theorem parse64_walk (w : World) (d p sg : Int) (hT : P10 w w.heap.size) (h0 : 0 ≤ d) (h1 : d ≤ 18446744073709551615) (hp0 : -345 ≤ p) (hp1 : p ≤ 310) :
    Calls Tryd.prog 82 #[.int .u64 d, .int .i64 p, .int .u64 sg] w (PackPost w) := by
  obtain ⟨L, hL⟩ : ∃ L : Int, L = (Lib.bitLen d.toNat : Int) := ⟨_, rfl⟩
  have p1 : 0 ≤ L := by omega
  have p2 : L ≤ 64 := by have := bitLen_le h0 h1; omega
  have HL := Aside0.mk (fun W => by have h := Sw.bits_Len64 d W h0 h1; rw [← hL] at h; exact h)
  obtain ⟨lp, hlp⟩ : ∃ lp : Int, lp = p * 108853 / 32768 := ⟨_, rfl⟩
  have HLP := Aside0.mk (fun W => by have h := log2_walk p W (by omega) (by omega); rw [← hlp] at h; exact h)
  have p3 : -1200 ≤ lp := by omega
  have p4 : lp ≤ 1200 := by omega
  have HT := Aside0.mk hT
  have HP := Aside0.mk (And.intro hp0 hp1)
  have HB := Aside0.mk (Below.refl w.heap.size w)
  have hfb := frombits_run
  obtain ⟨E, hE⟩ : ∃ E : Int, min 1074 (53 - L - lp) = E := ⟨_, rfl⟩
  have p5 : E ≤ 1074 := by omega
  have p6 : -1300 ≤ E := by omega
  have HE := Aside0.mk (show E ≤ 53 - L - lp by omega)
  clear hL hlp h0 h1 hp0 hp1 hT
  go_enter Tryd.func82, Tryd.ntmps82
  go_wp2_with (first | (go_at_call 89; refine (HL.out _).mono ?_; rintro e w5 ⟨rfl, rfl⟩) | (go_at_call 90; refine (HLP.out _).mono ?_; rintro e w6 ⟨rfl, rfl⟩))
  have hsc : Sc (w5.alloc (Obj.cells #[Value.int IntKind.u64 0, Value.int IntKind.u64 0, Value.int IntKind.i64 0] 146)) w5.heap.size 0 0 0 := blk_new _ _
  refine (prescale_walk _ w5.heap.size _ p lp 0 0 0 0 hsc (HT.out.below ((Below.refl _ _).alloc (Nat.le_refl _) _)) (by have := HP.out; omega) (by have := HP.out; omega) (by omega) (by omega) (by omega) (by omega)).mono ?_
  rintro e w7 ⟨rfl, hi, lo, hs7, hh, hl, _, hb7⟩
  have HB7 := Aside0.mk (show Below w5.heap.size w5 w7 from ((Below.refl w5.heap.size w5).alloc (Nat.le_refl _) _).trans hb7)
  obtain ⟨S, hS⟩ : ∃ S : Int, S = -(E - (64 - L) + lp + 3) := ⟨_, rfl⟩
  rw [← hS] at hs7
  have p7 : 8 ≤ S := by have := HE.out; omega
  have c2 := (blk_cell hs7 2).trans (rfl : _ = some (Value.int .i64 S))
  have HS7 := Aside0.mk (And.intro hs7 (And.intro hh hl))
  clear hs7 hh hl hb7 hS hsc
  by_cases h64 : S ≥ 64
  · have d1 : decide (S ≥ 64) = true := decide_eq_true h64
    have d1b : decide (64 ≤ S) = true := decide_eq_true h64
    clear h64
    go_wp2
    go_ret2
    exact ⟨_, _, rfl, .inl rfl, HB7.out⟩
  · have d1 : decide (S ≥ 64) = false := decide_eq_false h64
    have d1b : decide (64 ≤ S) = false := decide_eq_false h64
    have p8 : S < 64 := by omega
    clear h64
    go_wp2_with fail
    refine (uscale_at _ _ w5.heap.size hi lo S HS7.out.1 HS7.out.2.1 HS7.out.2.2 (by omega) p8 (Dt.u64_nonneg _).1 (Dt.u64_nonneg _).2).mono ?_
    rintro e w8 ⟨u, rfl, hd8⟩
    have HB8 := Aside0.mk (show Below w5.heap.size w5 w8 from by obtain ⟨m, rfl⟩ := hd8.out; exact pw_below_drewN HB7.out _)
    clear hd8
    go_wp2_with (first | (go_at_call 94; refine (unmin_walk _).mono ?_; rintro e w9 ⟨rfl, rfl⟩) | (go_at_call 93; refine (bool2i_walk _ _).mono ?_; rintro e w9 ⟨v, hv, p9, p10, rfl, rfl⟩; clear hv) | (go_at_call 96; refine (round_walk _ _).mono ?_; rintro e w9 ⟨rfl, rfl⟩))
    refine (pack_walk _ _ _ (by omega) (by omega)).mono ?_
    rintro e w9 ⟨x, er, rfl, her, hb9⟩
    have HER := Aside0.mk her
    clear her
    have HB9 := Aside0.mk (below_then HB8.out HB8.out.size hb9)
    clear hb9
    go_wp2
    go_ret2
    exact ⟨x, er, rfl, HER.out, HB9.out⟩
end Go.Proofs.YtldfejbmdonaoaaDoor.Pf
namespace Go.Proofs.YtldfejbmdonaoaaDoor.Fw
open Go Ieee
set_option linter.unusedVariables false
set_option linter.unusedSimpArgs false
theorem least : double.leastPlace = -1074 := by decide
theorem bin : double.binade = 4503599627370496 := by decide
theorem inf : double.infRung = 9218868437227405312 := by decide
theorem sgw : double.signWeight = 9223372036854775808 := by decide
theorem log_bd {m : Nat} (h0 : m ≠ 0) (h1 : m < 9007199254740992) : m.log2 ≤ 52 ∧ 2 ^ m.log2 ≤ m ∧ m < 2 ^ (m.log2 + 1) :=
  ⟨by have := (Nat.log2_lt (n := m) (k := 53) h0).mpr h1; omega, Nat.log2_self_le h0, (Nat.log2_lt h0).mp (Nat.lt_succ_self _)⟩
theorem cut0 (neg : Bool) (n : Nat) : Toward.even.cut neg n 0 = n := by
  unfold Toward.cut
  simp [Nat.mod_one]
theorem kept_bd {m : Nat} (h0 : m ≠ 0) (h1 : m < 9007199254740992) : 4503599627370496 ≤ m * 2 ^ (52 - m.log2) ∧ m * 2 ^ (52 - m.log2) < 9007199254740992 := by
  obtain ⟨a, b, c⟩ := log_bd h0 h1
  have hp : 2 ^ m.log2 * 2 ^ (52 - m.log2) = 4503599627370496 := by rw [← Nat.pow_add, show m.log2 + (52 - m.log2) = 52 by omega]
  have hp2 : 2 ^ (m.log2 + 1) * 2 ^ (52 - m.log2) = 9007199254740992 := by rw [← Nat.pow_add, show m.log2 + 1 + (52 - m.log2) = 53 by omega]
  constructor
  · rw [← hp]; exact Nat.mul_le_mul_right _ b
  · rw [← hp2]; exact Nat.mul_lt_mul_of_pos_right c (Nat.pow_pos (by decide))
theorem near (neg : Bool) {m : Nat} (h0 : m ≠ 0) (h1 : m < 9007199254740992) :
    double.nearest neg m 0 = double.word neg ((m.log2 + 1022) * 4503599627370496 + m * 2 ^ (52 - m.log2)) := by
  obtain ⟨a, b, c⟩ := log_bd h0 h1
  obtain ⟨k1, k2⟩ := kept_bd h0 h1
  unfold Format.nearest
  rw [if_neg h0, least, bin, inf]
  have e1 : max (0 + (m.log2 : Int) - ((double.fractionBits : Nat) : Int)) (-1074) = (m.log2 : Int) - 52 := by
    have : ((double.fractionBits : Nat) : Int) = 52 := rfl
    omega
  simp only [e1]
  rw [show ((0 : Int) - ((m.log2 : Int) - 52)).toNat = 52 - m.log2 by omega, show ((m.log2 : Int) - 52 - 0).toNat = 0 by omega, cut0, Nat.shiftLeft_eq,
    show ((m.log2 : Int) - 52 - -1074).toNat = m.log2 + 1022 by omega, Nat.min_eq_left (by omega)]
theorem float_is (a : Int) : floatOfInt .f64 a = double.nearest (a < 0) a.natAbs 0 := rfl
theorem xor_top {r : Nat} (h : r < 2 ^ 63) : r ^^^ 2 ^ 63 = 2 ^ 63 + r := by
  apply Nat.eq_of_testBit_eq
  intro k
  rw [Nat.testBit_xor, Nat.testBit_two_pow]
  rcases Nat.lt_trichotomy k 63 with hk | hk | hk
  · rw [Nat.testBit_two_pow_add_gt hk]
    simp [show ¬ 63 = k by omega]
  · subst hk
    rw [Nat.testBit_two_pow_add_eq]
    simp
  · have e1 : r.testBit k = false := Nat.testBit_lt_two_pow (Nat.lt_of_lt_of_le h (Nat.pow_le_pow_right (by decide) (by omega)))
    have e2 : (2 ^ 63 + r).testBit k = false := Nat.testBit_lt_two_pow (Nat.lt_of_lt_of_le (show 2 ^ 63 + r < 2 ^ 64 by omega) (Nat.pow_le_pow_right (by decide) (by omega)))
    rw [e1, e2]
    simp [show ¬ 63 = k by omega]
theorem neg_whole {a : Int} (h0 : 0 < a) (h1 : a < 9007199254740992) : Op.negFloat .f64 (floatOfInt .f64 a) = floatOfInt .f64 (-a) := by
  have hm : a.natAbs ≠ 0 := by omega
  have hm2 : a.natAbs < 9007199254740992 := by omega
  obtain ⟨l1, l2, l3⟩ := log_bd hm hm2
  obtain ⟨k1, k2⟩ := kept_bd hm hm2
  rw [float_is, float_is, decide_eq_false (show ¬ a < 0 by omega), decide_eq_true (show -a < 0 by omega), Int.natAbs_neg, near _ hm hm2, near _ hm hm2]
  show (_ : Nat) ^^^ 2 ^ 63 = _
  generalize hr : (a.natAbs.log2 + 1022) * 4503599627370496 + a.natAbs * 2 ^ (52 - a.natAbs.log2) = r
  have hlt : r < 2 ^ 63 := by
    have : (2 : Nat) ^ 63 = 9223372036854775808 := by decide
    omega
  show r ^^^ 2 ^ 63 = double.signWeight + r
  rw [xor_top hlt, sgw]
theorem word53 {d : Int} (h0 : 4503599627370496 ≤ d) (h1 : d < 9007199254740992) : (floatOfInt .f64 d : Int) = 4841369599423283200 + (d - 4503599627370496) := by
  have hm : d.natAbs ≠ 0 := by omega
  have hm2 : d.natAbs < 9007199254740992 := by omega
  have hl : d.natAbs.log2 = 52 := by
    have h2 := (Nat.log2_lt (n := d.natAbs) (k := 53) hm).mpr (by omega)
    have h3 := mt (Nat.log2_lt (n := d.natAbs) (k := 52) hm).mp (by omega)
    omega
  rw [float_is, decide_eq_false (show ¬ d < 0 by omega), near _ hm hm2, hl]
  show (((52 + 1022) * 4503599627370496 + d.natAbs * 2 ^ (52 - 52) : Nat) : Int) = _
  omega
end Go.Proofs.YtldfejbmdonaoaaDoor.Fw