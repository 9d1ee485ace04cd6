/- Joined by a program of mine from texts of this claim: Px. -/
import Derived.Test.YtldfejbmdonaoaaDoorV30
import Derived.Laws.Bits64b
namespace Go.Proofs.YtldfejbmdonaoaaDoor.Px
open Go.RowKit YtldfejbmdonaoaaDoorW.PrintWords YtldfejbmdonaoaaDoorW.PrintLast YtldfejbmdonaoaaDoorW.PrintMore Pf
set_option linter.unusedVariables false
set_option linter.unusedSimpArgs false
theorem or0 {x : Int} (h0 : 0 ≤ x) (h1 : x ≤ 18446744073709551615) : bits .or .u64 x 0 = x := by
  obtain ⟨a, rfl⟩ := Int.eq_ofNat_of_zero_le h0
  rw [show (0 : Int) = ((0 : Nat) : Int) from rfl, bits_or_u64_nat a 0 (by omega) (by decide), Nat.or_zero]
theorem zero_or {x : Int} (h0 : 0 ≤ x) (h1 : x ≤ 18446744073709551615) : bits .or .u64 0 x = x := by
  obtain ⟨a, rfl⟩ := Int.eq_ofNat_of_zero_le h0
  rw [show (0 : Int) = ((0 : Nat) : Int) from rfl, bits_or_u64_nat 0 a (by decide) (by omega), Nat.zero_or]
def Sgn (sg : Int) : Prop := sg = 0 ∨ sg = 9223372036854775808
theorem sg_or {sg d : Int} (hs : Sgn sg) (h0 : 0 ≤ d) (h1 : d < 9223372036854775808) : bits .or .u64 sg d = sg + d := by
  rcases hs with rfl | rfl
  · rw [zero_or h0 (by omega)]
    omega
  · obtain ⟨a, rfl⟩ := Int.eq_ofNat_of_zero_le h0
    rw [show (9223372036854775808 : Int) = ((9223372036854775808 : Nat) : Int) from rfl, bits_or_u64_nat _ a (by decide) (by omega)]
    have h := Nat.two_pow_add_eq_or_of_lt (i := 63) (b := a) (by omega) 1
    rw [show (2 : Nat) ^ 63 * 1 = 9223372036854775808 by decide] at h
    rw [← h]
    omega
theorem and52 {sg d : Int} (hs : Sgn sg) (h0 : 4503599627370496 ≤ d) (h1 : d < 9007199254740992) : (bits .and .u64 (sg + d) 4503599627370496 == 0) = false := by
  obtain ⟨m, hm⟩ := Int.eq_ofNat_of_zero_le (show 0 ≤ sg + d by rcases hs with rfl | rfl <;> omega)
  rw [beq_eq_false_iff_ne, hm, show (4503599627370496 : Int) = ((4503599627370496 : Nat) : Int) from rfl, bits_and_u64_nat m _ (by rcases hs with rfl | rfl <;> omega) (by decide)]
  intro h
  have h2 : m &&& 4503599627370496 = 0 := by omega
  have h3 : (m &&& 4503599627370496).testBit 52 = false := by rw [h2]; exact Nat.zero_testBit _
  rw [Nat.testBit_and, Nat.testBit_eq_decide_div_mod_eq, show (2 : Nat) ^ 52 = 4503599627370496 by decide, show m / 4503599627370496 % 2 = 1 by rcases hs with rfl | rfl <;> omega] at h3
  exact absurd h3 (by decide)
theorem not52 {sg d : Int} (hs : Sgn sg) (h0 : 4503599627370496 ≤ d) (h1 : d < 9007199254740992) : bits .andNot .u64 (sg + d) 4503599627370496 = sg + d - 4503599627370496 := by
  obtain ⟨m, hm⟩ := Int.eq_ofNat_of_zero_le (show 0 ≤ sg + d by rcases hs with rfl | rfl <;> omega)
  rw [hm]
  have hlt : m < 18446744073709551616 := by rcases hs with rfl | rfl <;> omega
  have e : (BitVec.ofInt 64 (m : Int) &&& ~~~ BitVec.ofInt 64 (4503599627370496 : Int)).toNat = m &&& 18442240474082181119 := by
    rw [BitVec.toNat_and, BitVec.ofInt_natCast, BitVec.toNat_ofNat, Nat.mod_eq_of_lt (by omega)]
    congr 1
  have h3 : m &&& 18442240474082181119 = m - 4503599627370496 := by
    have hd := Nat.and_div_two_pow (a := m) (b := 18442240474082181119) (n := 53)
    have hr := Nat.and_mod_two_pow (a := m) (b := 18442240474082181119) (n := 53)
    rw [show (2 : Nat) ^ 53 = 9007199254740992 by decide] at hd hr
    rw [show (18442240474082181119 : Nat) % 9007199254740992 = 2 ^ 52 - 1 by decide, Nat.and_two_pow_sub_one_eq_mod, show (2 : Nat) ^ 52 = 4503599627370496 by decide] at hr
    have h4 : (m &&& 18442240474082181119) / 9007199254740992 = m / 9007199254740992 := by
      rw [hd, show (18442240474082181119 : Nat) / 9007199254740992 = 2047 by decide]
      rcases hs with rfl | rfl
      · rw [show m / 9007199254740992 = 0 by omega]
        rfl
      · rw [show m / 9007199254740992 = 1024 by omega]
        rfl
    have h5 := Nat.div_add_mod (m &&& 18442240474082181119) 9007199254740992
    rw [h4, hr] at h5
    rcases hs with rfl | rfl <;> omega
  show IntKind.u64.wrap ((BitVec.ofInt 64 (m : Int) &&& ~~~ BitVec.ofInt 64 (4503599627370496 : Int)).toNat : Int) = _
  rw [e, h3, Dr.wrap_in (by omega) (by omega)]
  rcases hs with rfl | rfl <;> omega
theorem orexp {sg y : Int} (hs : Sgn sg) (h0 : 0 ≤ y) (h1 : y < 4503599627370496) : bits .or .u64 (sg + y) 4841369599423283200 = sg + 4841369599423283200 + y := by
  obtain ⟨m, hm⟩ := Int.eq_ofNat_of_zero_le (show 0 ≤ sg + y by rcases hs with rfl | rfl <;> omega)
  rw [hm, show (4841369599423283200 : Int) = ((4841369599423283200 : Nat) : Int) from rfl, bits_or_u64_nat m _ (by rcases hs with rfl | rfl <;> omega) (by decide)]
  have hd := Nat.or_div_two_pow (a := m) (b := 4841369599423283200) (n := 52)
  have hr := Nat.or_mod_two_pow (a := m) (b := 4841369599423283200) (n := 52)
  rw [show (2 : Nat) ^ 52 = 4503599627370496 by decide] at hd hr
  rw [show (4841369599423283200 : Nat) % 4503599627370496 = 0 by decide, Nat.or_zero] at hr
  have h4 : (m ||| 4841369599423283200) / 4503599627370496 = m / 4503599627370496 + 1075 := by
    rw [hd, show (4841369599423283200 : Nat) / 4503599627370496 = 1075 by decide]
    rcases hs with rfl | rfl
    · rw [show m / 4503599627370496 = 0 by omega]
      rfl
    · rw [show m / 4503599627370496 = 2048 by omega]
      rfl
  have h5 := Nat.div_add_mod (m ||| 4841369599423283200) 4503599627370496
  rw [h4, hr] at h5
  rcases hs with rfl | rfl <;> omega
set_option maxRecDepth 100000 in
set_option maxHeartbeats 4000000 in
theorem uscale_exact (w : World) (d : Int) (b : Nat) (hd0 : 4503599627370496 ≤ d) (hd1 : d < 9007199254740992) (hs : Sc w b 9223372036854775808 0 8) :
    Calls Tryd.prog 92 #[.int .u64 (d * 2048), .pointer (some ⟨b, 0, none⟩)] w fun e w' => e = .returned (.int .u64 (d * 4)) ∧ Drawn0 w w' := by
  have t0 := (blk_cell hs 0).trans (rfl : _ = some (Value.int .u64 9223372036854775808))
  have t1 := (blk_cell hs 1).trans (rfl : _ = some (Value.int .u64 0))
  have t2 := (blk_cell hs 2).trans (rfl : _ = some (Value.int .i64 8))
  have e1 : bits .and .i64 8 63 = 8 := by decide
  have HW := Aside0.mk (Drawn0.refl w)
  have H1 := Aside0.mk (fun W => by
    have h := Sw.bits_Mul64 (d * 2048).toNat 9223372036854775808 (by omega) (by decide) W
    rw [show (((d * 2048).toNat * 9223372036854775808 / 18446744073709551616 : Nat) : Int) = d * 1024 by omega, show (((d * 2048).toNat * 9223372036854775808 % 18446744073709551616 : Nat) : Int) = 0 by omega, show (((d * 2048).toNat : Nat) : Int) = d * 2048 by omega] at h
    exact h)
  have H2 := Aside0.mk (fun W => by
    have h := Sw.bits_Mul64 (d * 2048).toNat 0 (by omega) (by decide) W
    rw [show (((d * 2048).toNat * 0 / 18446744073709551616 : Nat) : Int) = 0 by omega, show (((d * 2048).toNat * 0 % 18446744073709551616 : Nat) : Int) = 0 by omega, show (((d * 2048).toNat : Nat) : Int) = d * 2048 by omega] at h
    exact h)
  have HD := Aside0.mk (And.intro hd0 hd1)
  clear hs hd0 hd1
  go_enter Tryd.func92, Tryd.ntmps92
  go_wp2_with fail
  refine (H1.out _).mono ?_
  rintro e w5 ⟨rfl, rfl⟩
  have e3 : (IntKind.u64.wrap (d * 1024 / 256 * 256) != d * 1024) = false := by
    rw [bne_eq_false_iff_eq, Dr.wrap_in (by have := HD.out; omega) (by have := HD.out; omega)]
    omega
  go_wp2_with fail
  refine (H2.out _).mono ?_
  rintro e w6 ⟨rfl, rfl⟩
  go_wp2_with (go_at_call 79; refine (bool2u_walk _ _).mono ?_; rintro e w7 ⟨rfl, rfl⟩)
  go_quiet ((go_at_call 79; exact Calls.quiet_of_same ((bool2u_walk _ _).mono fun _ _ h => ⟨h.1, h.2.symm⟩)))
  go_wp2
  go_ret
  refine ⟨?_, by repeat (first | exact HW.out | apply Drawn0.step)⟩
  have h1 := HD.out
  show Ending.returned (Value.int IntKind.u64 (bits BinOp.or IntKind.u64 (IntKind.u64.wrap (d * 1024 - 0) / 256) 0)) = _
  rw [Dr.wrap_in (by omega) (by omega), show (d * 1024 - 0) / 256 = d * 4 by omega, or0 (by omega) (by omega)]
set_option maxRecDepth 100000 in
theorem pack_exact (sg d : Int) (hs : Sgn sg) (h0 : 4503599627370496 ≤ d) (h1 : d < 9007199254740992) (w : World) :
    Calls Tryd.prog 99 #[.int .u64 (sg + d), .int .i64 0] w fun e w' => e = .returned (.tuple #[.float .f64 (sg + 4841369599423283200 + (d - 4503599627370496)).toNat, .nilIface]) ∧ w = w' := by
  have hfb := frombits_run
  have e1 := and52 hs h0 h1
  have e1b := eq_false (beq_eq_false_iff_ne.mp e1)
  have e2 := not52 hs h0 h1
  have e3 : bits .or .u64 (sg + d - 4503599627370496) 4841369599423283200 = sg + 4841369599423283200 + (d - 4503599627370496) := by
    rw [show sg + d - 4503599627370496 = sg + (d - 4503599627370496) by omega]
    exact orexp hs (by omega) (by omega)
  clear hs h0 h1
  obtain ⟨M, hM⟩ : ∃ M, sg + d = M := ⟨_, rfl⟩
  rw [hM] at e1 e1b e2 e3 ⊢
  go_enter Tryd.func99, Tryd.ntmps99
  go_wp2
  go_ret2
  exact ⟨rfl, rfl⟩
theorem bitLen_is : ∀ (k f x : Nat), 2 ^ k ≤ x → x < 2 ^ (k + 1) → k < f → Lib.bitLenAux f x = k + 1
  | k, 0, _, _, _, h => by omega
  | 0, f + 1, x, h0, h1, _ => by
    have : x = 1 := by omega
    subst this
    unfold Lib.bitLenAux
    cases f <;> simp [Lib.bitLenAux]
  | k + 1, f + 1, x, h0, h1, h2 => by
    have hp : 2 ^ (k + 1) = 2 * 2 ^ k := by rw [Nat.pow_succ]; omega
    have hp2 : 2 ^ (k + 1 + 1) = 2 * 2 ^ (k + 1) := by rw [Nat.pow_succ]; omega
    have hp3 : 0 < 2 ^ k := Nat.pow_pos (by decide)
    unfold Lib.bitLenAux
    rw [if_neg (by omega), bitLen_is k f (x / 2) (by omega) (by omega) (by omega)]
    try omega
set_option maxRecDepth 100000 in
set_option maxHeartbeats 4000000 in
theorem parse64_exact (w : World) (d sg : Int) (hT : P10 w w.heap.size) (hs : Sgn sg) (h0 : 4503599627370496 ≤ d) (h1 : d < 9007199254740992) :
    Calls Tryd.prog 82 #[.int .u64 d, .int .i64 0, .int .u64 sg] w fun e w' => e = .returned (.tuple #[.float .f64 (sg + 4841369599423283200 + (d - 4503599627370496)).toNat, .nilIface]) ∧ Below w.heap.size w w' := by
  have hlen : (Lib.bitLen d.toNat : Int) = 53 := by
    have := bitLen_is 52 64 d.toNat (by omega) (by omega) (by decide)
    show ((Lib.bitLenAux 64 d.toNat : Nat) : Int) = 53
    rw [this]
    rfl
  have HL := Aside0.mk (fun W => by have h := Sw.bits_Len64 d W (by omega) (by omega); rw [hlen] at h; exact h)
  have HLP := Aside0.mk (fun W => log2_walk 0 W (by decide) (by decide))
  have HT := Aside0.mk hT
  have HD := Aside0.mk (And.intro h0 h1)
  have HSG := Aside0.mk hs
  have hmin : (min 1074 0 : Int) = 0 := by decide
  have hwr : IntKind.u64.wrap (d * 2048) = d * 2048 := Dr.wrap_in (by omega) (by omega)
  clear hT hs h0 h1 hlen
  go_enter Tryd.func82, Tryd.ntmps82
  go_wp2_with (first | (go_at_call 89; refine (HL.out _).mono ?_; rintro e w5 ⟨rfl, rfl⟩) | (go_at_call 90; refine (HLP.out _).mono ?_; rintro e w6 ⟨rfl, rfl⟩))
  have hsc : Sc (w5.alloc (Obj.cells #[Value.int IntKind.u64 0, Value.int IntKind.u64 0, Value.int IntKind.i64 0] 146)) w5.heap.size 0 0 0 := blk_new _ _
  refine (prescale_walk _ w5.heap.size (-11) 0 0 0 0 0 0 hsc (HT.out.below ((Below.refl _ _).alloc (Nat.le_refl _) _)) (by decide) (by decide) (by decide) (by decide) (by decide) (by decide)).mono ?_
  rintro e w7 ⟨rfl, hi, lo, hs7, _, _, hz, hb7⟩
  obtain ⟨rfl, rfl⟩ := hz rfl
  have HB7 := Aside0.mk (show Below w5.heap.size w5 w7 from ((Below.refl w5.heap.size w5).alloc (Nat.le_refl _) _).trans hb7)
  have c2 := (blk_cell hs7 2).trans (rfl : _ = some (Value.int .i64 8))
  have HS7 := Aside0.mk hs7
  clear hs7 hb7 hsc
  go_wp2_with fail
  refine (uscale_exact w7 d w5.heap.size HD.out.1 HD.out.2 HS7.out).mono ?_
  rintro e w8 ⟨rfl, hd8⟩
  have HB8 := Aside0.mk (show Below w5.heap.size w5 w8 from by obtain ⟨m, rfl⟩ := hd8.out; exact pw_below_drewN HB7.out _)
  clear hd8
  have g1 : decide (d * 4 ≥ 36028797018963966) = false := decide_eq_false (by have := HD.out; omega)
  have g1b : decide (36028797018963966 ≤ d * 4) = false := decide_eq_false (by have := HD.out; omega)
  have g2 : bits .and .u64 (d * 4) 1 = 0 := by
    have h := bits_mask .u64 64 (by decide) (fun n h0 h1 => Dr.wrap_in h0 (by omega)) 1 (by decide) (d * 4) (by have := HD.out; omega) (by have := HD.out; omega)
    rw [show (2 : Int) ^ 1 - 1 = 1 by decide, show (2 : Int) ^ 1 = 2 by decide] at h
    omega
  have g3 : bits .or .u64 (d * 4) 0 = d * 4 := or0 (by have := HD.out; omega) (by have := HD.out; omega)
  have g4 : roundF (d * 4) = d := by
    unfold roundF
    have h := bits_mask .u64 64 (by decide) (fun n h0 h1 => Dr.wrap_in h0 (by omega)) 1 (by decide) (d * 4 / 4) (by have := HD.out; omega) (by have := HD.out; omega)
    rw [show (2 : Int) ^ 1 - 1 = 1 by decide, show (2 : Int) ^ 1 = 2 by decide] at h
    have h5 := HD.out
    rw [h, Dr.wrap_in (x := d * 4 + 1) (by omega) (by omega), Dr.wrap_in (by omega) (by omega)]
    omega
  have g5 : bits .or .u64 sg d = sg + d := sg_or HSG.out (by have := HD.out; omega) (by have := HD.out; omega)
  clear hwr hmin c2
  go_wp2_with (first | (go_at_call 94; refine (unmin_walk _).mono ?_; rintro e w9 ⟨rfl, rfl⟩) | (go_at_call 93; refine (bool2i_walk _ _).mono ?_; rintro e w9 ⟨v, hv, _, _, rfl, rfl⟩; obtain rfl : v = 0 := by (rw [hv]; first | rfl | (rw [g1]; rfl) | (rw [g1b]; rfl))) | (go_at_call 96; refine (round_walk _ _).mono ?_; rintro e w9 ⟨rfl, rfl⟩))
  have hx : bits .or .u64 sg (roundF (bits .or .u64 (d * 4 / 2 ^ (b2 false).toNat) (b2 false))) = sg + d := by
    show bits .or .u64 sg (roundF (bits .or .u64 (d * 4 / 1) 0)) = _
    rw [Int.ediv_one, g3, g4, g5]
  rw [hx]
  clear hx g1 g1b g2 g3 g4 g5
  refine (pack_exact sg d HSG.out HD.out.1 HD.out.2 _).mono ?_
  rintro e w9 ⟨rfl, rfl⟩
  go_wp2
  go_ret2
  exact ⟨rfl, HB8.out⟩
theorem x_pos {d : Int} (h0 : 4503599627370496 ≤ d) (h1 : d < 9007199254740992) : (0 + 4841369599423283200 + (d - 4503599627370496)).toNat = floatOfInt .f64 d := by
  have := Fw.word53 h0 h1
  omega
theorem x_neg {d : Int} (h0 : 4503599627370496 ≤ d) (h1 : d < 9007199254740992) : (9223372036854775808 + 4841369599423283200 + (d - 4503599627370496)).toNat = floatOfInt .f64 (-d) := by
  have h := Fw.word53 h0 h1
  rw [← Fw.neg_whole (by omega) h1]
  show _ = floatOfInt .f64 d ^^^ 2 ^ 63
  rw [Fw.xor_top (show floatOfInt .f64 d < 2 ^ 63 by rw [show (2 : Nat) ^ 63 = 9223372036854775808 by decide]; omega), show (2 : Nat) ^ 63 = 9223372036854775808 by decide]
  omega
end Go.Proofs.YtldfejbmdonaoaaDoor.Px