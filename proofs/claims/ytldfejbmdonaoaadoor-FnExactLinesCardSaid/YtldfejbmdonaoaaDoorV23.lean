/- Joined by a program of mine from texts of this claim: Ds. -/
import Derived.Test.YtldfejbmdonaoaaDoorV22
namespace Go.Proofs.YtldfejbmdonaoaaDoor.Ds
open Go.RowKit YtldfejbmdonaoaaDoorW.PrintWords YtldfejbmdonaoaaDoorW.PrintLast YtldfejbmdonaoaaDoorW.PrintMore Dm Dw Dr Dl
set_option linter.unusedVariables false
set_option linter.unusedSimpArgs false
structure LeftS (w0 w' : World) (b : Nat) (f : Nat → Int) (dp : Int) (ng : Bool) : Prop where
  mk :: (out : ∃ f' nd' dp' tr', Dc w' b f' nd' dp' ng tr' ∧ Digs f' nd'.toNat ∧ 49 ≤ f' 0 ∧ 1 ≤ nd' ∧ nd' ≤ 800 ∧ dp ≤ dp' ∧ dp' ≤ dp + 30 ∧ (dp' = dp → f 0 < f' 0) ∧ Below b w0 w')
theorem lessB_walk (w : World) (b : Nat) (f : Nat → Int) (N : Nat) (nd dp : Int) (ng tr : Bool) (h : Dc w b f nd dp ng tr) (h1 : N ≤ 800) (hf : Digs f N) (c : ByteArray) (hc : Cut c) :
    Calls Tryd.prog 109 #[.slice (some ⟨b, 0, none⟩) N 800, .string c] w fun e w' => e = .returned (.bool (lessB f N c)) ∧ ∃ n, w' = w.drewN n := by
  refine (less_walk w b f N nd dp ng tr h h1 hf c hc).mono ?_
  rintro e w' ⟨r, rfl, hL, hd⟩
  exact ⟨by rw [hL.is], hd.out⟩
set_option maxRecDepth 100000 in
set_option maxHeartbeats 4000000 in
theorem left_walk (w : World) (b : Nat) (f : Nat → Int) (N : Nat) (dp : Int) (ng tr : Bool) (k : Nat) (h : Dc w b f (N : Int) dp ng tr) (h0 : 1 ≤ N) (h1 : N ≤ 800) (hf : Digs f N) (hl : 49 ≤ f 0) (hk1 : 1 ≤ k) (hk2 : k ≤ 60) (hd1 : -1000000000 ≤ dp) (hd2 : dp ≤ 1000000000) (hT : Cheats w b) :
    Calls Tryd.prog 102 #[.pointer (some ⟨b, 0, none⟩), .int .u64 (k : Int)] w fun e w' => e = .returned (.tuple #[]) ∧ LeftS w w' b f dp ng := by
  obtain ⟨hg, B, o, hB, hcB, hkB⟩ := hT.out
  obtain ⟨d, c, hcd, hcc, hcut, hd19, hch⟩ := hkB k hk1 hk2
  have HD0 := Aside0.mk h
  have HN0 := Aside0.mk (And.intro h0 (And.intro h1 (And.intro hf hl)))
  have HK0 := Aside0.mk (And.intro hk1 hk2)
  have HDP := Aside0.mk (And.intro hd1 hd2)
  have HCH := Aside0.mk (And.intro hcut (And.intro hd19 hch))
  have hm : min k 64 = k := by omega
  have hm1 : min (k : Int).toNat 64 = k := by omega
  have p1 : (1 : Int) ≤ (N : Int) := by omega
  have p2 : (N : Int) ≤ 800 := by omega
  have p3 : (0 : Int) ≤ (d : Int) := by omega
  have p3b : (1 : Int) ≤ (d : Int) := by have := hch.pos; omega
  have p4 : (d : Int) ≤ 19 := by omega
  have c0 := h.cnd
  have HP := Aside0.mk (Dm.p2 k)
  have HLB := Aside0.mk (fun W (hW : Dc W b f (N : Int) dp ng tr) => lessB_walk W b f N _ dp ng tr hW h1 hf c hcut)
  have q1 : (k : Int) < 61 := by omega
  clear h h0 h1 hf hl hk1 hk2 hd1 hd2 hkB hcut hd19 hch hT hg hB
  go_enter Tryd.func102, Tryd.ntmps102
  go_wp2_with fail
  go_quiet ((go_at_call 109; exact Calls.quiet_of (v := .bool (lessB f N c)) (HLB.out _ (HD0.out.drewN _))))
  go_upto_if 30 with (fail)
  go_cut [4] (fun x4 wc => ∃ dl : Int, x4 = .int .i64 dl ∧ Aside0 (Drawn0 w wc ∧ 0 ≤ dl ∧ dl ≤ 19 ∧ V f N * 2 ^ k < 10 ^ (N + dl.toNat) ∧ 10 ^ (N + dl.toNat - 1) ≤ V f N * 2 ^ k))
  case first =>
    cases hle : lessB f N c
    · have hX : V f N * 2 ^ k < 10 ^ (N + d) ∧ 10 ^ (N + d - 1) ≤ V f N * 2 ^ k := by
        have h := HN0.out
        have hv := V_lo (f := f) (n := N - 1) (by rw [Nat.sub_add_cancel h.1]; exact h.2.2.1) h.2.2.2
        rw [Nat.sub_add_cancel h.1] at hv
        exact (shifted HCH.out.2.2 (V_bd h.2.2.1).1 hv h.1 (V_bd h.2.2.1).2).2 (Int.not_lt.mp (of_decide_eq_false hle))
      have HX := Aside0.mk hX
      clear hX
      go_wp2
      go_meet
      case rel => exact ⟨d, rfl, ⟨Drawn0.step (Drawn0.refl _) _, p3, p4, by rw [Int.toNat_natCast]; exact HX.out⟩⟩
    · have hX : V f N * 2 ^ k < 10 ^ (N + (d - 1)) ∧ 10 ^ (N + (d - 1) - 1) ≤ V f N * 2 ^ k := by
        have h := HN0.out
        have hv := V_lo (f := f) (n := N - 1) (by rw [Nat.sub_add_cancel h.1]; exact h.2.2.1) h.2.2.2
        rw [Nat.sub_add_cancel h.1] at hv
        exact (shifted HCH.out.2.2 (V_bd h.2.2.1).1 hv h.1 (V_bd h.2.2.1).2).1 (of_decide_eq_true hle)
      have HX := Aside0.mk hX
      clear hX
      go_wp2
      go_meet
      case rel => exact ⟨(d : Int) - 1, rfl, ⟨Drawn0.step (Drawn0.refl _) _, by omega, by omega, by rw [show ((d : Int) - 1).toNat = d - 1 by omega]; exact HX.out⟩⟩
  case rest =>
    clear hcd hcc c0 HLB HCH p3 p3b p4
    obtain ⟨dl, rfl, HR⟩ := hcut
    have HD1 := Aside0.mk (HD0.out.same (w1 := wc) (by obtain ⟨n, rfl⟩ := HR.out.1.out; rfl))
    have HB1 := Aside0.mk (show Below b w wc from by obtain ⟨n, rfl⟩ := HR.out.1.out; exact pw_below_drewN (Below.refl _ _) n)
    have c0 := HD1.out.cnd
    have p3 : 0 ≤ dl := HR.out.2.1
    have p4 : dl ≤ 19 := HR.out.2.2.1
    go_wp2_with fail
    repeat (go_quiet (fail); try go_wp2_with fail)
    go_loopg [5, 6, 7] N (fun kq x5 x6 x7 wr => ∃ (f' : Nat → Int) (tr' : Bool) (r wv n : Int) (mm : Nat), x5 = .int .i64 r ∧ x6 = .int .i64 wv ∧ x7 = .int .u64 n ∧ Aside0 (Dc wr b f' (N : Int) dp ng tr' ∧ Below b w wr ∧ L1 f f' k N dl r wv n mm ∧ mm + kq = N))
    case atStart => exact ⟨f, tr, (N : Int) - 1, (N : Int) + dl, 0, 0, rfl, rfl, rfl, ⟨HD1.out, HB1.out, ⟨by omega, by omega, by omega, by rw [carry_zero], fun _ _ => rfl, fun i h1 h2 => by omega, fun h1 h2 => by omega⟩, by omega⟩⟩
    case round =>
      clear HD1 HB1 c0
      obtain ⟨f', tr', r, wv, n, mm, rfl, rfl, rfl, HQ⟩ := hrel
      have HL := Aside0.mk HQ.out.2.2.1
      have q2 : -1 ≤ r := HL.out.r1
      have q3 : r ≤ 800 := by have := HL.out.rm; omega
      by_cases hr : 0 ≤ r
      · have d1 : decide (r ≥ 0) = true := decide_eq_true hr
        have q4 : r < 800 := by have := HL.out.rm; omega
        have q6 : wv ≤ 1000 := by have := HL.out.wr; omega
        have q7 : 1 ≤ wv := by have := HL.out.wr; omega
        have hbd := HL.out.bd HN0.out.2.2.1
        have hdg := HN0.out.2.2.1 r.toNat (by have := HL.out.rm; omega)
        have hs := HL.out.same r.toNat (by have := HL.out.wr; omega)
        have hp := p60 HK0.out.2
        have hm0 : 0 ≤ (f r.toNat - 48) * 2 ^ k := Int.mul_nonneg (by omega) (Int.le_of_lt HP.out)
        have hm9 : (f r.toNat - 48) * 2 ^ k ≤ 9 * 2 ^ k := Int.mul_le_mul_of_nonneg_right (by omega) (Int.le_of_lt HP.out)
        obtain ⟨y, hy⟩ : ∃ y, y = (f r.toNat - 48) * 2 ^ k := ⟨_, rfl⟩
        have q8 : 0 ≤ n := hbd.1
        have q9 : 0 ≤ y := by omega
        have q10 : n + y ≤ 11529215046068469760 := by omega
        have q11 : y ≤ 10376293541461622784 := by omega
        have q12 : 48 ≤ f' r.toNat := by omega
        have q13 : f' r.toNat ≤ 57 := by omega
        have e1 : IntKind.u64.wrap ((f' r.toNat - 48) * 2 ^ k) = y := by rw [hs, ← hy]; exact wrap_in q9 (by omega)
        have e2 : n + y - 10 * ((n + y) / 10) = (n + y) % 10 := by omega
        have q14 : 0 ≤ (n + y) % 10 := by omega
        have q15 : (n + y) % 10 ≤ 9 := by omega
        have q16 : 0 ≤ (n + y) / 10 := by omega
        have q17 : (n + y) / 10 ≤ 1152921504606846976 := by omega
        have c3 := HQ.out.1.at (i := r.toNat) (by omega)
        have f3 := HQ.out.1.fr r.toNat
        have HY := Aside0.mk hy
        clear hbd hdg hs hp hm0 hm9 hy
        by_cases hw : wv - 1 < 800
        · have d2 : decide (wv - 1 < 800) = true := decide_eq_true hw
          have c4 := HQ.out.1.at (i := wv.toNat - 1) (by omega)
          have f4 := HQ.out.1.fr (wv.toNat - 1)
          have HS := Aside0.mk (by have h := HL.out.put hr p3 hw; rw [← HY.out] at h; exact h)
          go_wp2
          repeat (go_quiet (fail); try go_wp2)
          go_roundg (gk - 1)
          case measure => have := HQ.out.2.2.2; have := HL.out.rm; omega
          case rel => exact ⟨_, tr', r - 1, wv - 1, _, mm + 1, rfl, rfl, rfl, ⟨HQ.out.1.put (by omega) _, HQ.out.2.1.setCell (by simp) _, by rw [show wv.toNat - 1 = (wv - 1).toNat by omega]; exact HS.out, by have := HQ.out.2.2.2; have := HL.out.rm; omega⟩⟩
        · have d2 : decide (wv - 1 < 800) = false := decide_eq_false hw
          have c4 := HQ.out.1.ctr
          have f4 := HQ.out.1.fr 803
          have HS := Aside0.mk (by have h := HL.out.lose hr p3 p4 (Int.not_lt.mp hw); rw [← HY.out] at h; exact h)
          clear hw
          by_cases hz : (n + y) % 10 = 0
          · have d3 : ((n + y) % 10 != 0) = false := bne_eq_false_iff_eq.mpr hz
            clear hz
            go_wp2
            repeat (go_quiet (fail); try go_wp2)
            go_roundg (gk - 1)
            case measure => have := HQ.out.2.2.2; have := HL.out.rm; omega
            case rel => exact ⟨_, tr', r - 1, wv - 1, _, mm + 1, rfl, rfl, rfl, ⟨HQ.out.1, HQ.out.2.1, HS.out, by have := HQ.out.2.2.2; have := HL.out.rm; omega⟩⟩
          · have d3 : ((n + y) % 10 != 0) = true := bne_iff_ne.mpr hz
            clear hz
            go_wp2
            repeat (go_quiet (fail); try go_wp2)
            go_roundg (gk - 1)
            case measure => have := HQ.out.2.2.2; have := HL.out.rm; omega
            case rel => exact ⟨_, true, r - 1, wv - 1, _, mm + 1, rfl, rfl, rfl, ⟨HQ.out.1.putTr _, HQ.out.2.1.setCell (by simp) _, HS.out, by have := HQ.out.2.2.2; have := HL.out.rm; omega⟩⟩
      · have d1 : decide (r ≥ 0) = false := decide_eq_false hr
        have hr1 : r = -1 := by omega
        have HL2 := Aside0.mk (HL.out.fin hr1 HN0.out.1 HN0.out.2.2.1 HN0.out.2.2.2 HK0.out.1 p3 HR.out.2.2.2)
        have HQ2 := Aside0.mk (And.intro HQ.out.1 (And.intro HQ.out.2.1 (HL.out.bd HN0.out.2.2.1)))
        clear hr hr1
        go_wp2_with fail
        repeat (go_quiet (fail); try go_wp2_with fail)
        clear HQ HL q2 q3 d1
        go_loopg [6, 7] 20 (fun kq x6 x7 wr => ∃ (f' : Nat → Int) (tr' : Bool) (wv n : Int), x6 = .int .i64 wv ∧ x7 = .int .u64 n ∧ Aside0 (Dc wr b f' (N : Int) dp ng tr' ∧ Below b w wr ∧ L2 f f' N dl wv n ∧ wv < kq ∧ 0 ≤ n ∧ n < 2 ^ k))
        case atStart => exact ⟨f', tr', wv, n, rfl, rfl, ⟨HQ2.out.1, HQ2.out.2.1, HL2.out, by have := HL2.out.le; omega, HQ2.out.2.2⟩⟩
        case round =>
          clear HQ2 HL2
          obtain ⟨f', tr', wv, n, rfl, rfl, HQ⟩ := hrel
          have hp := p60 HK0.out.2
          have q8 : 0 ≤ n := HQ.out.2.2.2.2.1
          have q9 : n ≤ 1152921504606846976 := by have := HQ.out.2.2.2.2.2; omega
          clear hp
          by_cases hn : 0 < n
          · have d1 : decide (n > 0) = true := decide_eq_true hn
            have HS := Aside0.mk (HQ.out.2.2.1.step hn p4)
            have q7 : 1 ≤ wv := HS.out.1
            have q6 : wv ≤ 19 := by have := HQ.out.2.2.1.le; omega
            have e2 : n - 10 * (n / 10) = n % 10 := by omega
            have q14 : 0 ≤ n % 10 := by omega
            have q15 : n % 10 ≤ 9 := by omega
            have q16 : 0 ≤ n / 10 := by omega
            have q17 : n / 10 ≤ 1152921504606846976 := by omega
            have d2 : decide (wv - 1 < 800) = true := decide_eq_true (by omega)
            have hw : wv - 1 < 800 := by omega
            have c4 := HQ.out.1.at (i := wv.toNat - 1) (by omega)
            have f4 := HQ.out.1.fr (wv.toNat - 1)
            go_wp2
            repeat (go_quiet (fail); try go_wp2)
            go_roundg (gk - 1)
            case measure => have := HQ.out.2.2.2.1; omega
            case rel => exact ⟨_, tr', wv - 1, _, rfl, rfl, ⟨HQ.out.1.put (by omega) _, HQ.out.2.1.setCell (by simp) _, by rw [show wv.toNat - 1 = (wv - 1).toNat by omega]; exact HS.out.2, by have := HQ.out.2.2.2.1; omega, by omega, by have := HQ.out.2.2.2.2.2; omega⟩⟩
          · have d1 : decide (n > 0) = false := decide_eq_false hn
            have hz : wv = 0 := by
              rcases HQ.out.2.2.1.num with h | h
              · exact h.1
              · have := p10 (wv - 1).toNat; omega
            have c0 := HQ.out.1.cnd
            have f0 := HQ.out.1.fr 800
            have c1 := HQ.out.1.cdp
            have f1 := HQ.out.1.fr 801
            have q1 : -1000000000 ≤ dp := HDP.out.1
            have q2 : dp ≤ 1000000000 := HDP.out.2
            have HZ := Aside0.mk hz
            have HD := Aside0.mk HQ.out.1
            have HB := Aside0.mk HQ.out.2.1
            have HL2 := Aside0.mk HQ.out.2.2.1
            clear HQ q8 q9 hn hz
            by_cases hN : (N : Int) + dl ≥ 800
            · have d2 : decide ((N : Int) + dl ≥ 800) = true := decide_eq_true hN
              go_wp2_with fail
              repeat (go_quiet (fail); try go_wp2_with fail)
              refine (trim_walk _ b f' (800) (dp + dl) ng tr' (((HD.out.putNd _).putNd _).putDp _) (by omega) (by omega)).mono ?_
              rintro e w3 ⟨rfl, HT⟩
              go_wp2
              first | go_end0 | ((try simp only [Exit.inBlock, Exit.then]); refine bodyPost_ret (results_none rfl _ _ _) rfl ?_)
              refine ⟨rfl, ?_⟩
              obtain ⟨nd', dp', hD, h0', h1', h2', hB⟩ := HT.out
              obtain ⟨t49, tdl⟩ := HL2.out.top HZ.out
              obtain ⟨h3', rfl⟩ := h2' (by omega) (by omega)
              exact ⟨f', nd', _, tr', hD, fun i hi => HL2.out.digs i (by have := HZ.out; omega) (by omega) (by omega), t49, h3', by omega, by omega, by omega, fun e => tdl (by omega), (((HB.out.setCell (by simp) _).setCell (by simp) _).setCell (by simp) _).trans hB⟩
            · have d2 : decide ((N : Int) + dl ≥ 800) = false := decide_eq_false hN
              go_wp2_with fail
              repeat (go_quiet (fail); try go_wp2_with fail)
              refine (trim_walk _ b f' ((N : Int) + dl) (dp + dl) ng tr' ((HD.out.putNd _).putDp _) (by omega) (by omega)).mono ?_
              rintro e w3 ⟨rfl, HT⟩
              go_wp2
              first | go_end0 | ((try simp only [Exit.inBlock, Exit.then]); refine bodyPost_ret (results_none rfl _ _ _) rfl ?_)
              refine ⟨rfl, ?_⟩
              obtain ⟨nd', dp', hD, h0', h1', h2', hB⟩ := HT.out
              obtain ⟨t49, tdl⟩ := HL2.out.top HZ.out
              obtain ⟨h3', rfl⟩ := h2' (by omega) (by omega)
              exact ⟨f', nd', _, tr', hD, fun i hi => HL2.out.digs i (by have := HZ.out; omega) (by omega) (by omega), t49, h3', by omega, by omega, by omega, fun e => tdl (by omega), ((HB.out.setCell (by simp) _).setCell (by simp) _).trans hB⟩
end Go.Proofs.YtldfejbmdonaoaaDoor.Ds