/- Joined by a program of mine from texts of this claim: Py, Sc. -/
import Derived.Test.YtldfejbmdonaoaaDoorV31
import Derived.Test.YtldfejbmdonaoaaDoorV20
import Derived.WalkLawsBesides
namespace Go.Proofs.YtldfejbmdonaoaaDoor.Py
open Go.RowKit YtldfejbmdonaoaaDoorW.PrintWords YtldfejbmdonaoaaDoorW.PrintLast YtldfejbmdonaoaaDoorW.PrintMore Pf Px
set_option linter.unusedVariables false
set_option linter.unusedSimpArgs false
theorem or1_bd {y : Int} (h0 : 18014398509481984 ≤ y) (h1 : y < 36028797018963968) : 18014398509481984 ≤ bits .or .u64 y 1 ∧ bits .or .u64 y 1 < 36028797018963968 := by
  obtain ⟨a, rfl⟩ := Int.eq_ofNat_of_zero_le (show 0 ≤ y by omega)
  rw [show (1 : Int) = ((1 : Nat) : Int) from rfl, bits_or_u64_nat a 1 (by omega) (by decide)]
  have h2 : a ≤ a ||| 1 := Nat.left_le_or
  have h3 : a ||| 1 < 2 ^ 55 := Nat.or_lt_two_pow (by have : (2 : Nat) ^ 55 = 36028797018963968 := by decide
                                                      omega) (by decide)
  have h4 : (2 : Nat) ^ 55 = 36028797018963968 := by decide
  omega
set_option maxRecDepth 100000 in
set_option maxHeartbeats 4000000 in
theorem uscale_big (w : World) (D : Int) (b : Nat) (hd0 : 9223372036854775808 ≤ D) (hd1 : D < 18446744073709551616) (hd2 : D % 2 = 0) (hs : Sc w b 9223372036854775808 0 8) :
    Calls Tryd.prog 92 #[.int .u64 D, .pointer (some ⟨b, 0, none⟩)] w fun e w' => ∃ u : Int, e = .returned (.int .u64 u) ∧ (18014398509481984 ≤ u ∧ u < 36028797018963968) ∧ Drawn0 w w' := by
  have t0 := (blk_cell hs 0).trans (rfl : _ = some (Value.int .u64 9223372036854775808))
  have t1 := (blk_cell hs 1).trans (rfl : _ = some (Value.int .u64 0))
  have t2 := (blk_cell hs 2).trans (rfl : _ = some (Value.int .i64 8))
  have e1 : bits .and .i64 8 63 = 8 := by decide
  have HW := Aside0.mk (Drawn0.refl w)
  obtain ⟨Y, hY⟩ : ∃ Y, D / 2 = Y := ⟨_, rfl⟩
  have H1 := Aside0.mk (fun W => by
    have h := Sw.bits_Mul64 D.toNat 9223372036854775808 (by omega) (by decide) W
    rw [show ((D.toNat * 9223372036854775808 / 18446744073709551616 : Nat) : Int) = Y by omega, show ((D.toNat * 9223372036854775808 % 18446744073709551616 : Nat) : Int) = 0 by omega, show ((D.toNat : Nat) : Int) = D by omega] at h
    exact h)
  have H2 := Aside0.mk (fun W => by
    have h := Sw.bits_Mul64 D.toNat 0 (by omega) (by decide) W
    rw [show ((D.toNat * 0 / 18446744073709551616 : Nat) : Int) = 0 by omega, show ((D.toNat * 0 % 18446744073709551616 : Nat) : Int) = 0 by omega, show ((D.toNat : Nat) : Int) = D by omega] at h
    exact h)
  have HD := Aside0.mk (show 4611686018427387904 ≤ Y ∧ Y < 9223372036854775808 by omega)
  clear hs hd0 hd1 hd2 hY
  go_enter Tryd.func92, Tryd.ntmps92
  go_wp2_with fail
  refine (H1.out _).mono ?_
  rintro e w5 ⟨rfl, rfl⟩
  rcases Bool.eq_false_or_eq_true (IntKind.u64.wrap (Y / 256 * 256) != Y) with e3 | e3
  · have e3b := eq_true (bne_iff_ne.mp e3)
    go_wp2_with fail
    all_goals
      go_ret
      exact ⟨_, rfl, or1_bd (by have := HD.out; omega) (by have := HD.out; omega), HW.out⟩
  · go_wp2_with fail
    refine (H2.out _).mono ?_
    rintro e w6 ⟨rfl, rfl⟩
    go_wp2_with (go_at_call 79; refine (bool2u_walk _ _).mono ?_; rintro e w7 ⟨rfl, rfl⟩)
    go_quiet ((go_at_call 79; exact Calls.quiet_of_same ((bool2u_walk _ _).mono fun _ _ h => ⟨h.1, h.2.symm⟩)))
    go_wp2
    go_ret
    have h1 := HD.out
    have h2 : bits BinOp.or IntKind.u64 (IntKind.u64.wrap (Y - 0) / 256) 0 = Y / 256 := by
      rw [Dr.wrap_in (by omega) (by omega), show (Y - 0) / 256 = Y / 256 by omega, or0 (by omega) (by omega)]
    exact ⟨bits BinOp.or IntKind.u64 (IntKind.u64.wrap (Y - 0) / 256) 0, rfl, by rw [h2]; omega, by repeat (first | exact HW.out | apply Drawn0.step)⟩
set_option maxRecDepth 100000 in
theorem pack_big (m e : Int) (h0 : 4503599627370496 ≤ m) (h1 : m < 9007199254740992) (he0 : 1 ≤ e) (he1 : e ≤ 100) (w : World) :
    Calls Tryd.prog 99 #[.int .u64 m, .int .i64 e] w fun e' w' => ∃ x : Nat, e' = .returned (.tuple #[.float .f64 x, .nilIface]) ∧ (4845873199050653696 ≤ x ∧ x < 9218868437227405312) ∧ w = w' := by
  have hfb := frombits_run
  have e1 := and52 (sg := 0) (d := m) (.inl rfl) h0 h1
  have e2 := not52 (sg := 0) (d := m) (.inl rfl) h0 h1
  rw [Int.zero_add] at e1 e2
  have e1b := eq_false (beq_eq_false_iff_ne.mp e1)
  have d1 : decide (e ≥ 972) = false := decide_eq_false (by omega)
  have d1b : decide (972 ≤ e) = false := decide_eq_false (by omega)
  have e4 : bits .or .u64 (m - 4503599627370496) ((1075 + e) * 4503599627370496) = (1075 + e) * 4503599627370496 + (m - 4503599627370496) := by
    obtain ⟨a, ha⟩ := Int.eq_ofNat_of_zero_le (show 0 ≤ m - 4503599627370496 by omega)
    obtain ⟨c, hc⟩ := Int.eq_ofNat_of_zero_le (show 0 ≤ 1075 + e by omega)
    have hc2 : (1075 + e) * 4503599627370496 = ((2 ^ 52 * c : Nat) : Int) := by rw [hc, show (2 : Nat) ^ 52 = 4503599627370496 by decide]; omega
    rw [hc2, ha, bits_or_u64_nat a _ (by omega) (by rw [show (2 : Nat) ^ 52 = 4503599627370496 by decide]; omega), Nat.or_comm, ← Nat.two_pow_add_eq_or_of_lt (by rw [show (2 : Nat) ^ 52 = 4503599627370496 by decide]; omega) c]
    omega
  have e5 : IntKind.u64.wrap ((1075 + e) * 4503599627370496) = (1075 + e) * 4503599627370496 := Dr.wrap_in (by omega) (by omega)
  have HM := Aside0.mk (show 4503599627370496 ≤ m ∧ m < 9007199254740992 ∧ 1 ≤ e ∧ e ≤ 100 by omega)
  have p1 : 0 ≤ 1075 + e := by omega
  have p2 : 1075 + e ≤ 2000 := by omega
  clear h0 h1 he0 he1
  go_enter Tryd.func99, Tryd.ntmps99
  go_wp2
  go_ret2
  have h := HM.out
  exact ⟨((1075 + e) * 4503599627370496 + (m - 4503599627370496)).toNat, rfl, by omega, rfl⟩
theorem and1 {u : Int} (h0 : 0 ≤ u) (h1 : u ≤ 18446744073709551615) : bits .and .u64 u 1 = u % 2 := by
  have h := bits_mask .u64 64 (by decide) (fun n h0 h1 => Dr.wrap_in h0 (by omega)) 1 (by decide) u h0 (by omega)
  rw [show (2 : Int) ^ 1 - 1 = 1 by decide, show (2 : Int) ^ 1 = 2 by decide] at h
  exact h
theorem or_bit {u : Int} (h0 : 0 ≤ u) (h1 : u ≤ 18446744073709551615) : bits .or .u64 u (bits .and .u64 u 1) = u := by
  rw [and1 h0 h1]
  obtain ⟨a, rfl⟩ := Int.eq_ofNat_of_zero_le h0
  rw [show ((a : Int) % 2) = ((a % 2 : Nat) : Int) by omega, bits_or_u64_nat a (a % 2) (by omega) (by omega)]
  have h := Nat.two_pow_add_eq_or_of_lt (i := 1) (b := a % 2) (by omega) (a / 2)
  have h2 : 2 ^ 1 * (a / 2) + a % 2 = a := by omega
  rw [h2] at h
  have h3 : a ||| a % 2 = a := by
    rw [h, ← h]
    conv => lhs; lhs; rw [h]
    rw [Nat.or_assoc, Nat.or_self, ← h]
  rw [h3]
theorem round_bd {u : Int} (h0 : 18014398509481984 ≤ u) (h1 : u < 36028797018963966) : 4503599627370496 ≤ roundF u ∧ roundF u < 9007199254740992 := by
  unfold roundF
  rw [and1 (u := u / 4) (by omega) (by omega), Dr.wrap_in (x := u + 1) (by omega) (by omega), Dr.wrap_in (by omega) (by omega)]
  omega
theorem len_is {d : Int} (h0 : 9007199254740992 ≤ d) (h1 : d < 1000000000000000000) : ∃ L : Nat, (Lib.bitLen d.toNat : Int) = (L : Int) ∧ 54 ≤ L ∧ L ≤ 60 ∧ 9223372036854775808 ≤ d * 2 ^ (64 - L) ∧ d * 2 ^ (64 - L) < 18446744073709551616 ∧ d * 2 ^ (64 - L) % 2 = 0 := by
  have key : ∀ k : Nat, 2 ^ k ≤ d.toNat → d.toNat < 2 ^ (k + 1) → k < 64 → (Lib.bitLen d.toNat : Int) = ((k + 1 : Nat) : Int) := fun k a b c => by
    show ((Lib.bitLenAux 64 d.toNat : Nat) : Int) = _
    rw [bitLen_is k 64 d.toNat a b c]
  have hc : d < 18014398509481984 ∨ 18014398509481984 ≤ d ∧ d < 36028797018963968 ∨ 36028797018963968 ≤ d ∧ d < 72057594037927936 ∨ 72057594037927936 ≤ d ∧ d < 144115188075855872 ∨ 144115188075855872 ≤ d ∧ d < 288230376151711744 ∨ 288230376151711744 ≤ d ∧ d < 576460752303423488 ∨ 576460752303423488 ≤ d := by omega
  rcases hc with h | h | h | h | h | h | h
  · exact ⟨54, key 53 (by omega) (by omega) (by decide), by decide, by decide, by omega, by omega, by omega⟩
  · exact ⟨55, key 54 (by omega) (by omega) (by decide), by decide, by decide, by omega, by omega, by omega⟩
  · exact ⟨56, key 55 (by omega) (by omega) (by decide), by decide, by decide, by omega, by omega, by omega⟩
  · exact ⟨57, key 56 (by omega) (by omega) (by decide), by decide, by decide, by omega, by omega, by omega⟩
  · exact ⟨58, key 57 (by omega) (by omega) (by decide), by decide, by decide, by omega, by omega, by omega⟩
  · exact ⟨59, key 58 (by omega) (by omega) (by decide), by decide, by decide, by omega, by omega, by omega⟩
  · exact ⟨60, key 59 (by omega) (by omega) (by decide), by decide, by decide, by omega, by omega, by omega⟩
set_option maxRecDepth 100000 in
set_option maxHeartbeats 4000000 in
theorem parse64_big (w : World) (d : Int) (hT : P10 w w.heap.size) (h0 : 9007199254740992 ≤ d) (h1 : d < 1000000000000000000) :
    Calls Tryd.prog 82 #[.int .u64 d, .int .i64 0, .int .u64 0] w fun e w' => ∃ x : Nat, e = .returned (.tuple #[.float .f64 x, .nilIface]) ∧ (4845873199050653696 ≤ x ∧ x < 9218868437227405312) ∧ Below w.heap.size w w' := by
  obtain ⟨LN, hlen, l0, l1, b0, b1, b2'⟩ := len_is h0 h1
  have HL := Aside0.mk (fun W => by have h := Sw.bits_Len64 d W (by omega) (by omega); rw [hlen] at h; exact h)
  have HLP := Aside0.mk (fun W => log2_walk 0 W (by decide) (by decide))
  have HT := Aside0.mk hT
  have HB := Aside0.mk (show 9223372036854775808 ≤ d * 2 ^ (64 - LN) ∧ d * 2 ^ (64 - LN) < 18446744073709551616 ∧ d * 2 ^ (64 - LN) % 2 = 0 from ⟨b0, b1, b2'⟩)
  have HD := Aside0.mk (And.intro h0 h1)
  have hmin : (min 1074 (53 - (LN : Int)) : Int) = 53 - (LN : Int) := by omega
  have p1 : 54 ≤ (LN : Int) := by omega
  have p2 : (LN : Int) ≤ 60 := by omega
  clear hT h0 h1 hlen b0 b1 b2' l0 l1
  go_enter Tryd.func82, Tryd.ntmps82
  go_wp2_with (first | (go_at_call 89; refine (HL.out _).mono ?_; rintro e w5 ⟨rfl, rfl⟩) | (go_at_call 90; refine (HLP.out _).mono ?_; rintro e w6 ⟨rfl, rfl⟩))
  have hsc : Sc (w5.alloc (Obj.cells #[Value.int IntKind.u64 0, Value.int IntKind.u64 0, Value.int IntKind.i64 0] 146)) w5.heap.size 0 0 0 := blk_new _ _
  refine (prescale_walk _ w5.heap.size _ 0 0 0 0 0 0 hsc (HT.out.below ((Below.refl _ _).alloc (Nat.le_refl _) _)) (by decide) (by decide) (by omega) (by omega) (by decide) (by decide)).mono ?_
  rintro e w7 ⟨rfl, hi, lo, hs7, _, _, hz, hb7⟩
  obtain ⟨rfl, rfl⟩ := hz rfl
  have HB7 := Aside0.mk (show Below w5.heap.size w5 w7 from ((Below.refl w5.heap.size w5).alloc (Nat.le_refl _) _).trans hb7)
  rw [show -(53 - (LN : Int) - (64 - (LN : Int)) + 0 + 3) = 8 by omega] at hs7
  have c2 := (blk_cell hs7 2).trans (rfl : _ = some (Value.int .i64 8))
  have HS7 := Aside0.mk hs7
  clear hs7 hb7 hsc
  obtain ⟨D, hD⟩ : ∃ D, d * 2 ^ (64 - LN) = D := ⟨_, rfl⟩
  rw [hD] at HB
  have hwr : IntKind.u64.wrap (d * 2 ^ (64 - LN)) = D := by rw [hD]; exact Dr.wrap_in (by have := HB.out; omega) (by have := HB.out; omega)
  clear hD hmin
  go_wp2_with fail
  refine (uscale_big w7 D w5.heap.size HB.out.1 HB.out.2.1 HB.out.2.2 HS7.out).mono ?_
  rintro e w8 ⟨u, rfl, hu, hd8⟩
  have HU := Aside0.mk hu
  have HB8 := Aside0.mk (show Below w5.heap.size w5 w8 from by obtain ⟨m, rfl⟩ := hd8.out; exact pw_below_drewN HB7.out _)
  clear hd8 hwr c2 hu
  rcases Bool.eq_false_or_eq_true (decide (u ≥ 36028797018963966)) with d1 | d1
  · have d1b : decide (36028797018963966 ≤ u) = true := d1
    have hr : roundF (bits .or .u64 (u / 2) (bits .and .u64 u 1)) = 4503599627370496 := by
      have h := HU.out
      have h2 := of_decide_eq_true d1
      have : u = 36028797018963966 ∨ u = 36028797018963967 := by omega
      rcases this with rfl | rfl <;> decide
    go_wp2_with (first | (go_at_call 94; refine (unmin_walk _).mono ?_; rintro e w9 ⟨rfl, rfl⟩) | (go_at_call 93; refine (bool2i_walk _ _).mono ?_; rintro e w9 ⟨v, hv, _, _, rfl, rfl⟩; obtain rfl : v = 1 := by (rw [hv]; first | rfl | (rw [d1]; rfl) | (rw [d1b]; rfl))) | (go_at_call 96; refine (round_walk _ _).mono ?_; rintro e w9 ⟨rfl, rfl⟩))
    have hx : bits .or .u64 0 (roundF (bits .or .u64 (u / 2 ^ (b2 true).toNat) (bits .and .u64 u (b2 true)))) = 4503599627370496 := by
      show bits .or .u64 0 (roundF (bits .or .u64 (u / 2) (bits .and .u64 u 1))) = _
      rw [hr, zero_or (by decide) (by decide)]
    rw [hx]
    clear hx hr d1 d1b
    refine (pack_big _ _ (by decide) (by decide) (by show 1 ≤ -(53 - (LN : Int) - 1); omega) (by show -(53 - (LN : Int) - 1) ≤ 100; omega) _).mono ?_
    rintro e w9 ⟨x, rfl, hx, rfl⟩
    have HX := Aside0.mk hx
    clear hx
    go_wp2
    go_ret2
    exact ⟨x, rfl, HX.out, HB8.out⟩
  · have d1b : decide (36028797018963966 ≤ u) = false := d1
    have ho : bits .or .u64 u (bits .and .u64 u 1) = u := or_bit (by have := HU.out; omega) (by have := HU.out; omega)
    have hr : 4503599627370496 ≤ roundF u ∧ roundF u < 9007199254740992 := by
      have h := HU.out
      have h2 := of_decide_eq_false d1
      exact round_bd h.1 (by omega)
    go_wp2_with (first | (go_at_call 94; refine (unmin_walk _).mono ?_; rintro e w9 ⟨rfl, rfl⟩) | (go_at_call 93; refine (bool2i_walk _ _).mono ?_; rintro e w9 ⟨v, hv, _, _, rfl, rfl⟩; obtain rfl : v = 0 := by (rw [hv]; first | rfl | (rw [d1]; rfl) | (rw [d1b]; rfl))) | (go_at_call 96; refine (round_walk _ _).mono ?_; rintro e w9 ⟨rfl, rfl⟩))
    have hx : bits .or .u64 (b2 false) (roundF (bits .or .u64 (u / 2 ^ (b2 false).toNat) (bits .and .u64 u 1))) = roundF u := by
      show bits .or .u64 0 (roundF (bits .or .u64 (u / 1) (bits .and .u64 u 1))) = _
      rw [Int.ediv_one, ho, zero_or (by omega) (by omega)]
    rw [hx]
    have HR := Aside0.mk hr
    clear hx hr d1 d1b ho
    refine (pack_big _ _ HR.out.1 HR.out.2 (by show 1 ≤ 0 - (53 - (LN : Int) - 0); omega) (by show 0 - (53 - (LN : Int) - 0) ≤ 100; omega) _).mono ?_
    rintro e w9 ⟨x, rfl, hx, rfl⟩
    have HX := Aside0.mk hx
    clear hx
    go_wp2
    go_ret2
    exact ⟨x, rfl, HX.out, HB8.out⟩
end Go.Proofs.YtldfejbmdonaoaaDoor.Py
namespace Go.Proofs.YtldfejbmdonaoaaDoor.Sc
open Go.RowKit YtldfejbmdonaoaaDoorW.PrintWords YtldfejbmdonaoaaDoorW.PrintLast YtldfejbmdonaoaaDoorW.PrintMore
set_option linter.unusedVariables false
set_option linter.unusedSimpArgs false
structure Num0 (s : ByteArray) (i : Int) : Prop where
  sign : i = 0 ∨ i = 1 ∧ bt s 0 = 45
  lt : i < (s.size : Int)
  lo : 48 ≤ bt s i
  hi : bt s i ≤ 57
set_option maxRecDepth 100000 in
set_option maxHeartbeats 4000000 in
theorem prefix_walk (s : ByteArray) (w : World) (hz : 0 < s.size) (hs : (s.size : Int) ≤ 70000) (h0 : 48 ≤ bt s 0) (h1 : bt s 0 ≤ 57) :
    Calls Tryd.prog 86 #[.string s, .string ⟨#[105, 110, 102, 105, 110, 105, 116, 121]⟩] w fun e w' => e = .returned (.int .i64 0) ∧ Drawn0 w w' := by
  have hx0 := Bt.bt_at0 s
  have d1 : decide (65 ≤ bt s 0) = false := decide_eq_false (by omega)
  have d2 : (bt s 0 != 105) = true := bne_iff_ne.mpr (by omega)
  have hy : (((⟨#[105, 110, 102, 105, 110, 105, 116, 121]⟩ : ByteArray)[0]'(by decide)).toNat : Int) = 105 := by decide
  have HW := Aside0.mk (Drawn0.refl w)
  go_enter Tryd.func86, Tryd.ntmps86
  go_wp2_with fail
  all_goals
    go_loopg [6] 1 (fun kq x6 wr => x6 = .int .i64 0 ∧ wr = w)
    case atStart => exact ⟨rfl, rfl⟩
    case round =>
      obtain ⟨rfl, rfl⟩ := hrel
      go_wp2
      go_ret
      exact ⟨rfl, HW.out⟩
def SpecPost (w : World) (e : Ending) (w' : World) : Prop := e = .returned (.tuple #[.float .f64 0, .int .i64 0, .bool false]) ∧ Drawn0 w w'
set_option maxRecDepth 100000 in
set_option maxHeartbeats 4000000 in
theorem special_walk (s : ByteArray) (w : World) (i : Int) (hN : Num0 s i) (hs : (s.size : Int) ≤ 70000) :
    Calls Tryd.prog 70 #[.string s] w (SpecPost w) := by
  have hx0 := Bt.bt_at0 s
  have hz : 0 < s.size := by have := hN.lt; rcases hN.sign with h | h <;> omega
  have d0 : (0 == (s.size : Int)) = false := beq_eq_false_iff_ne.mpr (by omega)
  have d0b : ((s.size : Int) == 0) = false := beq_eq_false_iff_ne.mpr (by omega)
  have d1b : (s = ByteArray.empty) = False := eq_false (by rintro rfl; exact absurd hz (by decide))
  have HW := Aside0.mk (Drawn0.refl w)
  have HNN := Aside0.mk hN
  have HZ := Aside0.mk hz
  by_cases h45 : bt s 0 = 45
  · have d1 : (bt s 0 == 43) = false := beq_eq_false_iff_ne.mpr (by omega)
    have d2 : (bt s 0 == 45) = true := beq_iff_eq.mpr h45
    have hi1 : i = 1 := by
      rcases hN.sign with h | h
      · subst h; have := hN.lo; omega
      · exact h.1
    subst hi1
    have h1 : bt (s.extract 1 s.size) 0 = bt s 1 := by
      have := Bt.bt_extract (s := s) (a := 1) (b := s.size) (Nat.le_refl _) (j := 0) (by have := hN.lt; omega)
      simpa using this
    have HP := Aside0.mk (fun W => prefix_walk (s.extract 1 s.size) W (by rw [ByteArray.size_extract]; have := hN.lt; omega) (by rw [ByteArray.size_extract]; omega) (by rw [h1]; exact hN.lo) (by rw [h1]; exact hN.hi))
    have q1 : (1 ≤ s.size) = True := eq_true (by omega)
    clear hN h45 h1 hs
    go_enter Tryd.func70, Tryd.ntmps70
    go_wp2_with fail
    refine (HP.out _).mono ?_
    rintro e w5 ⟨rfl, hd⟩
    have HD := Aside0.mk hd
    clear hd
    go_wp2
    go_ret3
    exact ⟨rfl, HD.out⟩
  · have hi0 : i = 0 := by
      rcases hN.sign with h | h
      · exact h
      · exact absurd h.2 h45
    subst hi0
    have h2 := hN.lo
    have h3 := hN.hi
    have d1 : (bt s 0 == 43) = false := beq_eq_false_iff_ne.mpr (by omega)
    have d2 : (bt s 0 == 45) = false := beq_eq_false_iff_ne.mpr (by omega)
    have d3 : (bt s 0 == 105) = false := beq_eq_false_iff_ne.mpr (by omega)
    have d4 : (bt s 0 == 73) = false := beq_eq_false_iff_ne.mpr (by omega)
    have d5 : (bt s 0 == 110) = false := beq_eq_false_iff_ne.mpr (by omega)
    have d6 : (bt s 0 == 78) = false := beq_eq_false_iff_ne.mpr (by omega)
    clear hN h45 hs h2 h3
    go_enter Tryd.func70, Tryd.ntmps70
    go_wp2
    go_ret3
    exact ⟨rfl, HW.out⟩
end Go.Proofs.YtldfejbmdonaoaaDoor.Sc