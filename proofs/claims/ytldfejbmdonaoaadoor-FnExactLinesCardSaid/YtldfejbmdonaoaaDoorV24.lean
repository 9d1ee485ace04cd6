/- Joined by a program of mine from texts of this claim: Dt. -/
import Derived.Test.YtldfejbmdonaoaaDoorV23
namespace Go.Proofs.YtldfejbmdonaoaaDoor.Dt
open Go.RowKit YtldfejbmdonaoaaDoorW.PrintWords YtldfejbmdonaoaaDoorW.PrintLast YtldfejbmdonaoaaDoorW.PrintMore Dm Dw Dr Dl Ds
set_option linter.unusedVariables false
set_option linter.unusedSimpArgs false
set_option maxRecDepth 100000 in
set_option maxHeartbeats 4000000 in
theorem shiftL_walk (w : World) (b : Nat) (f : Nat → Int) (N : Nat) (dp : Int) (ng tr : Bool) (k : Nat) (h : Dc w b f (N : Int) dp ng tr) (h0 : 1 ≤ N) (h1 : N ≤ 800) (hf : Digs f N) (hl : 49 ≤ f 0) (hk1 : 1 ≤ k) (hk2 : k ≤ 60) (hd1 : -1000000000 ≤ dp) (hd2 : dp ≤ 1000000000) (hT : Cheats w b) :
    Calls Tryd.prog 97 #[.pointer (some ⟨b, 0, none⟩), .int .i64 (k : Int)] w fun e w' => e = .returned (.tuple #[]) ∧ LeftS w w' b f dp ng := by
  have c0 := h.cnd
  have d0 : ((N : Int) == 0) = false := beq_eq_false_iff_ne.mpr (by omega)
  have HL := left_walk w b f N dp ng tr k h h0 h1 hf hl hk1 hk2 hd1 hd2 hT
  obtain ⟨K, hK⟩ : ∃ K : Int, (k : Int) = K := ⟨_, rfl⟩
  rw [hK] at HL ⊢
  have d1 : decide (K > 0) = true := decide_eq_true (by omega)
  have d2 : decide (K > 60) = false := decide_eq_false (by omega)
  have p1 : 0 ≤ K := by omega
  have p2 : K ≤ 60 := by omega
  replace HL := Aside0.mk HL
  clear h h0 h1 hf hl hk1 hk2 hd1 hd2 hT hK
  go_enter Tryd.func97, Tryd.ntmps97
  go_wp2
  repeat (go_quiet (fail); try go_wp2)
  go_loopg [1] 1 (fun kq x1 wr => x1 = .int .i64 K ∧ wr = w)
  case atStart => exact ⟨rfl, rfl⟩
  case round =>
    obtain ⟨rfl, rfl⟩ := hrel
    go_wp2_with fail
    refine HL.out.mono ?_
    rintro e w3 ⟨rfl, HT⟩
    go_wp2
    first | go_end0 | ((try simp only [Exit.inBlock, Exit.then]); refine bodyPost_ret (results_none rfl _ _ _) rfl ?_)
    exact ⟨rfl, HT⟩
structure RightG (w0 w' : World) (b : Nat) (f : Nat → Int) (dp : Int) (ng : Bool) (n : Nat) : Prop where
  mk :: (out : ∃ f' nd' dp' tr', Dc w' b f' nd' dp' ng tr' ∧ Digs f' nd'.toNat ∧ 49 ≤ f' 0 ∧ 1 ≤ nd' ∧ nd' ≤ 800 ∧ dp' ≤ dp ∧ dp - 30 * (n + 1) ≤ dp' ∧ (n ≤ 60 → dp - 30 ≤ dp' ∧ (dp' = dp → f' 0 < f 0)) ∧ Below b w0 w')
set_option maxRecDepth 100000 in
set_option maxHeartbeats 4000000 in
theorem shiftR_walk (w : World) (b : Nat) (f : Nat → Int) (nd dp : Int) (ng tr : Bool) (n : Nat) (h : Dc w b f nd dp ng tr) (h0 : 1 ≤ nd) (h1 : nd ≤ 800) (hf : Digs f nd.toNat) (hl : 49 ≤ f 0) (hn1 : 1 ≤ n) (hn2 : n ≤ 100000) (hd1 : -500000000 ≤ dp) (hd2 : dp ≤ 500000000) :
    Calls Tryd.prog 97 #[.pointer (some ⟨b, 0, none⟩), .int .i64 (-(n : Int))] w fun e w' => e = .returned (.tuple #[]) ∧ RightG w w' b f dp ng n := by
  have c0 := h.cnd
  have d0 : (nd == 0) = false := beq_eq_false_iff_ne.mpr (by omega)
  obtain ⟨K, hK⟩ : ∃ K : Int, -(n : Int) = K := ⟨_, rfl⟩
  rw [hK]
  have d1 : decide (K > 0) = false := decide_eq_false (by omega)
  have d2 : decide (K < 0) = true := decide_eq_true (by omega)
  have HKN := Aside0.mk hK
  clear hK
  have HD0 := Aside0.mk h
  have HN0 := Aside0.mk (And.intro h0 (And.intro h1 (And.intro hf hl)))
  have HK0 := Aside0.mk (And.intro hn1 hn2)
  have HDP := Aside0.mk (And.intro hd1 hd2)
  clear h h0 h1 hf hl hn1 hn2 hd1 hd2
  go_enter Tryd.func97, Tryd.ntmps97
  go_wp2
  repeat (go_quiet (fail); try go_wp2)
  go_loopg [1] n (fun kq x1 wr => ∃ (m : Nat) (M : Int) (f' : Nat → Int) (nd' dp' : Int) (tr' : Bool), x1 = .int .i64 M ∧ Aside0 (-(m : Int) = M ∧ Dc wr b f' nd' dp' ng tr' ∧ Below b w wr ∧ 1 ≤ nd' ∧ nd' ≤ 800 ∧ Digs f' nd'.toNat ∧ 49 ≤ f' 0 ∧ 1 ≤ m ∧ m ≤ n ∧ m ≤ kq ∧ dp' ≤ dp ∧ dp - 30 * (n - m) ≤ dp' ∧ (n ≤ 60 → m = n ∧ f' = f ∧ dp' = dp)))
  case atStart => exact ⟨n, K, f, nd, dp, tr, rfl, ⟨HKN.out, HD0.out, Below.refl _ _, HN0.out.1, HN0.out.2.1, HN0.out.2.2.1, HN0.out.2.2.2, HK0.out.1, Nat.le_refl _, Nat.le_refl _, Int.le_refl _, by omega, fun _ => ⟨rfl, rfl, rfl⟩⟩⟩
  case round =>
    clear c0 d0 d1 d2 HD0
    obtain ⟨m, M, f', nd', dp', tr', rfl, HR⟩ := hrel
    obtain ⟨hM, HC, HB, n0, n1, nf, n49, m1, mn, mq, dl, dg, hsm⟩ := HR.out
    have p1 : M ≤ -1 := by omega
    have p2 : -100000 ≤ M := by have := HK0.out; omega
    by_cases hm : 60 < m
    · have d1 : decide (M < -60) = true := decide_eq_true (by omega)
      have HW := Aside0.mk (right_walk wr b f' nd' dp' ng tr' 60 HC n0 n1 nf n49 (by omega) (by omega) (by have := HDP.out; have := HK0.out; omega) (by have := HDP.out; omega))
      have HM := Aside0.mk hm
      clear hM HC HB n0 n1 nf n49 m1 mn mq dl dg hsm hm
      go_wp2_with fail
      refine HW.out.mono ?_
      rintro e w3 ⟨rfl, HT⟩
      go_wp2
      go_roundg (gk - 60)
      case measure => have := HR.out.2.2.2.2.2.2.2.2.2.1; have := HM.out; omega
      case rel =>
        obtain ⟨f3, nd3, dp3, tr3, hc3, hf3, h49, h13, h83, hle3, hge3, _, hb3⟩ := HT.out
        obtain ⟨hM, HC, HB, n0, n1, nf, n49, m1, mn, mq, dl, dg, hsm⟩ := HR.out
        have hm := HM.out
        exact ⟨m - 60, _, f3, nd3, dp3, tr3, rfl, ⟨by omega, hc3, HB.trans hb3, h13, h83, hf3, h49, by omega, by omega, by omega, by omega, by omega, fun h => by omega⟩⟩
    · have d1 : decide (M < -60) = false := decide_eq_false (by omega)
      have HW := right_walk wr b f' nd' dp' ng tr' m HC n0 n1 nf n49 m1 (by omega) (by have := HDP.out; have := HK0.out; omega) (by have := HDP.out; omega)
      rw [show (m : Int) = -M by omega] at HW
      replace HW := Aside0.mk HW
      clear hM HC HB n0 n1 nf n49 m1 mn mq dl dg hsm hm
      go_wp2_with fail
      refine HW.out.mono ?_
      rintro e w3 ⟨rfl, HT⟩
      go_wp2
      first | go_end0 | ((try simp only [Exit.inBlock, Exit.then]); refine bodyPost_ret (results_none rfl _ _ _) rfl ?_)
      obtain ⟨f3, nd3, dp3, tr3, hc3, hf3, h49, h13, h83, hle3, hge3, hd3, hb3⟩ := HT.out
      obtain ⟨hM, HC, HB, n0, n1, nf, n49, m1, mn, mq, dl, dg, hsm⟩ := HR.out
      exact ⟨rfl, ⟨f3, nd3, dp3, tr3, hc3, hf3, h49, h13, h83, by omega, by omega, fun h => by obtain ⟨_, rfl, rfl⟩ := hsm h; exact ⟨by omega, hd3⟩, HB.trans hb3⟩⟩
def BoolPost (w : World) (e : Ending) (w' : World) : Prop := ∃ r, e = .returned (.bool r) ∧ Drawn0 w w'
set_option maxRecDepth 100000 in
set_option maxHeartbeats 4000000 in
theorem should_walk (w : World) (b : Nat) (f : Nat → Int) (nd dp : Int) (ng tr : Bool) (n : Int) (h : Dc w b f nd dp ng tr) (h0 : 0 ≤ nd) (h1 : nd ≤ 800) (hf : Digs f nd.toNat) :
    Calls Tryd.prog 104 #[.pointer (some ⟨b, 0, none⟩), .int .i64 n] w (BoolPost w) := by
  have c0 := h.cnd
  by_cases hn : n < 0
  · have d1 : decide (n < 0) = true := decide_eq_true hn
    clear hn h0 h1 hf h
    go_enter Tryd.func104, Tryd.ntmps104
    go_wp2
    repeat (go_quiet (fail); try go_wp2)
    go_ret
    exact ⟨_, rfl, by repeat (first | exact Drawn0.refl _ | apply Drawn0.step)⟩
  have d1 : decide (n < 0) = false := decide_eq_false hn
  by_cases hg : n ≥ nd
  · have d2 : decide (n ≥ nd) = true := decide_eq_true hg
    clear hn h0 h1 hf h hg
    go_enter Tryd.func104, Tryd.ntmps104
    go_wp2
    repeat (go_quiet (fail); try go_wp2)
    go_ret
    exact ⟨_, rfl, by repeat (first | exact Drawn0.refl _ | apply Drawn0.step)⟩
  have d2 : decide (n ≥ nd) = false := decide_eq_false hg
  have p1 : 0 ≤ n := by omega
  have p2 : n < 800 := by omega
  have c3 := h.at (i := n.toNat) (by omega)
  have ct := h.ctr
  have HD := Aside0.mk h
  have HNN := Aside0.mk (And.intro h0 (And.intro h1 (And.intro hf (Int.not_le.mp hg))))
  clear hn hg h0 h1 hf h
  by_cases h5 : f n.toNat = 53
  · have d3 : (f n.toNat == 53) = true := beq_iff_eq.mpr h5
    have d5 : decide (f n.toNat ≥ 53) = true := decide_eq_true (by omega)
    clear h5
    by_cases he : n + 1 = nd
    · have d4 : (n + 1 == nd) = true := beq_iff_eq.mpr he
      have HE := Aside0.mk he
      clear he
      cases tr with
      | true =>
        go_enter Tryd.func104, Tryd.ntmps104
        go_wp2
        repeat (go_quiet (fail); try go_wp2)
        go_ret
        exact ⟨_, rfl, by repeat (first | exact Drawn0.refl _ | apply Drawn0.step)⟩
      | false =>
        by_cases hz : 0 < n
        · have d6 : decide (n > 0) = true := decide_eq_true hz
          have c4 := HD.out.at (i := n.toNat - 1) (by omega)
          have hb := HNN.out.2.2.1 (n.toNat - 1) (by have := HNN.out.2.2.2; omega)
          have p5 : 48 ≤ f (n.toNat - 1) := hb.1
          have p6 : f (n.toNat - 1) ≤ 57 := hb.2
          clear hb
          go_enter Tryd.func104, Tryd.ntmps104
          go_wp2
          repeat (go_quiet (fail); try go_wp2)
          go_ret
          exact ⟨_, rfl, by repeat (first | exact Drawn0.refl _ | apply Drawn0.step)⟩
        · have d6 : decide (n > 0) = false := decide_eq_false hz
          clear hz
          go_enter Tryd.func104, Tryd.ntmps104
          go_wp2
          repeat (go_quiet (fail); try go_wp2)
          go_ret
          exact ⟨_, rfl, by repeat (first | exact Drawn0.refl _ | apply Drawn0.step)⟩
    · have d4 : (n + 1 == nd) = false := beq_eq_false_iff_ne.mpr he
      clear he
      go_enter Tryd.func104, Tryd.ntmps104
      go_wp2
      repeat (go_quiet (fail); try go_wp2)
      go_ret
      exact ⟨_, rfl, by repeat (first | exact Drawn0.refl _ | apply Drawn0.step)⟩
  · have d3 : (f n.toNat == 53) = false := beq_eq_false_iff_ne.mpr h5
    clear h5
    go_enter Tryd.func104, Tryd.ntmps104
    go_wp2
    repeat (go_quiet (fail); try go_wp2)
    go_ret
    exact ⟨_, rfl, by repeat (first | exact Drawn0.refl _ | apply Drawn0.step)⟩
def NumPost (w : World) (e : Ending) (w' : World) : Prop := ∃ u, e = .returned (.int .u64 u) ∧ 0 ≤ u ∧ u ≤ 18446744073709551615 ∧ Drawn0 w w'
theorem u64_nonneg (x : Int) : 0 ≤ IntKind.u64.wrap x ∧ IntKind.u64.wrap x ≤ 18446744073709551615 := by
  simp [IntKind.wrap, IntKind.signed, IntKind.bits]
  omega
set_option maxRecDepth 100000 in
set_option maxHeartbeats 4000000 in
theorem rounded_walk (w : World) (b : Nat) (f : Nat → Int) (nd dp : Int) (ng tr : Bool) (h : Dc w b f nd dp ng tr) (h0 : 0 ≤ nd) (h1 : nd ≤ 800) (hf : Digs f nd.toNat) :
    Calls Tryd.prog 98 #[.pointer (some ⟨b, 0, none⟩)] w (NumPost w) := by
  have c1 := h.cdp
  by_cases hn : dp > 20
  · have d1 : decide (dp > 20) = true := decide_eq_true hn
    clear hn h0 h1 hf h
    go_enter Tryd.func98, Tryd.ntmps98
    go_wp2
    repeat (go_quiet (fail); try go_wp2)
    go_ret
    exact ⟨_, rfl, by omega, by omega, by repeat (first | exact Drawn0.refl _ | apply Drawn0.step)⟩
  have d1 : decide (dp > 20) = false := decide_eq_false hn
  have HD0 := Aside0.mk h
  have HN0 := Aside0.mk (And.intro h0 (And.intro h1 (And.intro hf (Int.not_lt.mp hn))))
  clear h h0 h1 hf hn
  go_enter Tryd.func98, Tryd.ntmps98
  go_upto_block 0 with (fail)
  go_cut [3, 4] (fun x3 x4 wc => ∃ i n : Int, x3 = .int .i64 i ∧ x4 = .int .u64 n ∧ Aside0 (Drawn0 w wc ∧ 0 ≤ i ∧ i ≤ 800 ∧ 0 ≤ n ∧ n ≤ 18446744073709551615))
  case first =>
    go_wp2_with fail
    go_loopg [3, 4] 801 (fun kq x3 x4 wr => ∃ i n : Int, x3 = .int .i64 i ∧ x4 = .int .u64 n ∧ Aside0 (Drawn0 w wr ∧ 0 ≤ i ∧ i ≤ nd ∧ nd < i + kq ∧ 0 ≤ n ∧ n ≤ 18446744073709551615))
    case atStart => exact ⟨0, 0, rfl, rfl, ⟨Drawn0.refl _, by omega, by have := HN0.out.1; omega, by have := HN0.out.2.1; omega, by omega, by omega⟩⟩
    case round =>
      clear c1
      obtain ⟨i, n, rfl, rfl, HR⟩ := hrel
      have HC := Aside0.mk (HD0.out.same (w1 := wr) (by obtain ⟨m, rfl⟩ := HR.out.1.out; rfl))
      have c0 := HC.out.cnd
      have c1 := HC.out.cdp
      have p1 : 0 ≤ i := HR.out.2.1
      have p2 : i ≤ 800 := by have := HR.out; have := HN0.out; omega
      by_cases hi : i < dp
      · have d2 : decide (i < dp) = true := decide_eq_true hi
        by_cases hin : i < nd
        · have d3 : decide (i < nd) = true := decide_eq_true hin
          have p3 : i < 800 := by have := HN0.out.2.1; omega
          have c3 := HC.out.at (i := i.toNat) (by omega)
          have hb := HN0.out.2.2.1 i.toNat (by omega)
          have p5 : 48 ≤ f i.toNat := hb.1
          have p6 : f i.toNat ≤ 57 := hb.2
          have HI := Aside0.mk hin
          clear hb hin hi
          go_wp2
          repeat (go_quiet (fail); try go_wp2)
          go_roundg (gk - 1)
          case measure => have := HR.out; have := HI.out; omega
          case rel => exact ⟨i + 1, _, rfl, rfl, ⟨by repeat (first | exact HR.out.1 | apply Drawn0.step), by omega, by have := HI.out; omega, by have := HR.out; have := HI.out; omega, (u64_nonneg _).1, (u64_nonneg _).2⟩⟩
        · have d3 : decide (i < nd) = false := decide_eq_false hin
          clear hin hi
          go_wp2
          repeat (go_quiet (fail); try go_wp2)
          go_meet
          case rel => exact ⟨i, n, rfl, rfl, ⟨by repeat (first | exact HR.out.1 | apply Drawn0.step), p1, p2, HR.out.2.2.2.2⟩⟩
      · have d2 : decide (i < dp) = false := decide_eq_false hi
        clear hi
        go_wp2
        repeat (go_quiet (fail); try go_wp2)
        go_meet
        case rel => exact ⟨i, n, rfl, rfl, ⟨by repeat (first | exact HR.out.1 | apply Drawn0.step), p1, p2, HR.out.2.2.2.2⟩⟩
  case rest =>
    clear c1
    obtain ⟨i, n, rfl, rfl, HR0⟩ := hcut
    go_wp2_with fail
    go_loopg [3, 4] 22 (fun kq x3 x4 wr => ∃ i n : Int, x3 = .int .i64 i ∧ x4 = .int .u64 n ∧ Aside0 (Drawn0 w wr ∧ 0 ≤ i ∧ i ≤ 800 ∧ dp < i + kq ∧ 0 ≤ n ∧ n ≤ 18446744073709551615))
    case atStart => exact ⟨i, n, rfl, rfl, ⟨HR0.out.1, HR0.out.2.1, HR0.out.2.2.1, by have := HR0.out; have := HN0.out.2.2.2; omega, HR0.out.2.2.2⟩⟩
    case round =>
      clear HR0
      obtain ⟨i, n, rfl, rfl, HR⟩ := hrel
      have HC := Aside0.mk (HD0.out.same (w1 := wr) (by obtain ⟨m, rfl⟩ := HR.out.1.out; rfl))
      have c1 := HC.out.cdp
      have p1 : 0 ≤ i := HR.out.2.1
      have p2 : i ≤ 800 := HR.out.2.2.1
      by_cases hi : i < dp
      · have d2 : decide (i < dp) = true := decide_eq_true hi
        have HI := Aside0.mk hi
        clear hi
        go_wp2
        repeat (go_quiet (fail); try go_wp2)
        go_roundg (gk - 1)
        case measure => have := HR.out; have := HI.out; omega
        case rel => exact ⟨i + 1, _, rfl, rfl, ⟨by repeat (first | exact HR.out.1 | apply Drawn0.step), by omega, by have := HI.out; have := HN0.out.2.2.2; omega, by have := HR.out; omega, (u64_nonneg _).1, (u64_nonneg _).2⟩⟩
      · have d2 : decide (i < dp) = false := decide_eq_false hi
        have p5 : 0 ≤ n := HR.out.2.2.2.2.1
        have p6 : n ≤ 18446744073709551615 := HR.out.2.2.2.2.2
        clear hi
        go_wp2_with fail
        refine (should_walk _ b f nd dp ng tr dp HC.out HN0.out.1 HN0.out.2.1 HN0.out.2.2.1).mono ?_
        rintro e w3 ⟨r, rfl, hd⟩
        have HD3 := Aside0.mk hd
        clear hd
        cases r
        all_goals
          go_wp2
          go_ret
          refine ⟨_, rfl, ?_, ?_, ?_⟩
          · first | exact p5 | exact (u64_nonneg _).1
          · first | exact p6 | exact (u64_nonneg _).2
          · obtain ⟨m1, h1⟩ := HR.out.1.out
            obtain ⟨m2, h2⟩ := HD3.out.out
            exact ⟨⟨m1 + m2, by rw [h2, h1, World.drewN_drewN]⟩⟩
end Go.Proofs.YtldfejbmdonaoaaDoor.Dt