/- Joined by a program of mine from texts of this claim: De. -/
import Derived.Test.YtldfejbmdonaoaaDoorV26
import Derived.StillTailTactics
namespace Go.Proofs.YtldfejbmdonaoaaDoor.De
open Go.RowKit YtldfejbmdonaoaaDoorW.PrintWords YtldfejbmdonaoaaDoorW.PrintLast YtldfejbmdonaoaaDoorW.PrintMore Dm Dw Dr Dl Ds Dt Df Lo
set_option linter.unusedVariables false
set_option linter.unusedSimpArgs false
set_option maxRecDepth 100000 in
set_option maxHeartbeats 8000000 in
theorem bits_zero (w : World) (b : Nat) (f : Nat → Int) (dp : Int) (ng tr : Bool) (h : Dc w b f 0 dp ng tr) (hI : Info64 w b) :
    Calls Tryd.prog 78 #[.pointer (some ⟨b, 0, none⟩), .pointer (some ⟨5, 0, none⟩)] w (BitsPost w b) := by
  have c0 := h.cnd
  have i0 := hI.out.2.1
  have i1 := hI.out.2.2.1
  have i2 := hI.out.2.2.2
  have cng := h.cng
  have HB := Aside0.mk (Below.refl b w)
  clear h hI
  go_enter Tryd.func78, Tryd.ntmps78
  go_wp2_with fail
  refine wp_scope_two rfl rfl ?_
  generalize hQ : ExitTwo _ _ _ = Q1
  go_wp2
  go_step3
  simp only [Exit.then, Exit.inBlock]
  refine two_zero hQ ?_
  clear hQ
  generalize hQ2 : ExitNone _ = Q2
  go_wp2_with fail
  repeat (go_quiet (fail); try go_wp2_with fail)
  all_goals
    refine none_ret hQ2 ?_
    go_ret2
    exact ⟨_, _, rfl, by repeat (first | exact HB.out | apply pw_below_drewN)⟩
structure DecOk (w0 w : World) (b : Nat) : Prop where
  mk :: (out : ∃ f nd dp ng tr, Dc w b f nd dp ng tr ∧ 0 ≤ nd ∧ nd ≤ 800 ∧ Digs f nd.toNat ∧ (1 ≤ nd → 49 ≤ f 0) ∧ Below b w0 w)
theorem bits_any (w : World) (b : Nat) (h : DecOk w w b) (hT : Cheats w b) (hP : Pows w b) (hI : Info64 w b) :
    Calls Tryd.prog 78 #[.pointer (some ⟨b, 0, none⟩), .pointer (some ⟨5, 0, none⟩)] w (BitsPost w b) := by
  obtain ⟨f, nd, dp, ng, tr, hd, h0, h8, hf, hl, hb⟩ := h.out
  rcases Int.lt_or_le nd 1 with h1 | h1
  · obtain rfl : nd = 0 := by omega
    exact bits_zero w b f dp ng tr hd hI
  · exact bits_walk w b f nd dp ng tr ⟨hd, h1, h8, hf, hl h1, hb⟩ hT hP hI
theorem digs_snoc {f : Nat → Int} {nd c : Int} (h0 : 0 ≤ nd) (h : Digs f nd.toNat) (hc : 48 ≤ c ∧ c ≤ 57) : Digs (upd f nd.toNat c) (nd + 1).toNat := by
  intro i hi
  by_cases e : i = nd.toNat
  · subst e; rw [upd_same]; exact hc
  · rw [upd_ne _ e]; exact h i (by omega)
theorem top_snoc {f : Nat → Int} {nd c : Int} (h0 : 0 ≤ nd) (h : 1 ≤ nd → 49 ≤ f 0) (hz : nd = 0 → 49 ≤ c) : 1 ≤ nd + 1 → 49 ≤ upd f nd.toNat c 0 := by
  intro _
  rcases Int.lt_or_le 0 nd with h1 | h1
  · rw [upd_ne _ (by omega)]; exact h (by omega)
  · obtain rfl : nd = 0 := by omega
    show 49 ≤ upd f 0 c 0
    rw [upd_same]; exact hz rfl
def SetPost (w : World) (b : Nat) (e : Ending) (w' : World) : Prop := ∃ ok, e = .returned (.bool ok) ∧ DecOk w w' b
set_option maxRecDepth 100000 in
set_option maxHeartbeats 8000000 in
theorem set_walk (w : World) (b : Nat) (h : DecOk w w b) (s : ByteArray) (hz : 0 < s.size) (hs : (s.size : Int) ≤ 70000) (hu : ∀ x, bt s x ≠ 95) :
    Calls Tryd.prog 77 #[.pointer (some ⟨b, 0, none⟩), .string s] w (SetPost w b) := by
  obtain ⟨f, nd, dp, ng, tr, hd, h0, h8, hf, hl, hb⟩ := h.out
  have c2 := hd.cng
  have c3 := hd.ctr
  have f2 := hd.fr 802
  have f3 := hd.fr 803
  have H1 := Aside0.mk (show DecOk w ((w.setCell ⟨b, 802, none⟩ (.bool false)).setCell ⟨b, 803, none⟩ (.bool false)) b from ⟨f, nd, dp, false, false, (hd.putNg _).putTr _, h0, h8, hf, hl, (hb.setCell (by simp) _).setCell (by simp) _⟩)
  have H2 := Aside0.mk (show DecOk w (((w.setCell ⟨b, 802, none⟩ (.bool false)).setCell ⟨b, 803, none⟩ (.bool false)).setCell ⟨b, 802, none⟩ (.bool true)) b from ⟨f, nd, dp, true, false, ((hd.putNg _).putTr _).putNg _, h0, h8, hf, hl, ((hb.setCell (by simp) _).setCell (by simp) _).setCell (by simp) _⟩)
  have HS := Aside0.mk hs
  have HU := Aside0.mk hu
  clear h hs hu hd h0 h8 hf hl hb
  have d1 : decide (s = ByteArray.empty) = false := decide_eq_false (by rintro rfl; exact absurd hz (by decide))
  have d1b : (s = ByteArray.empty) = False := eq_false (by rintro rfl; exact absurd hz (by decide))
  have hx0 := Bt.bt_at0 s
  have HZ := Aside0.mk hz
  go_enter Tryd.func77, Tryd.ntmps77
  go_upto_block 0 with (fail)
  go_cut [5] (fun x5 wc => ∃ i : Int, x5 = .int .i64 i ∧ Aside0 (DecOk w wc b ∧ 0 ≤ i ∧ i ≤ (s.size : Int)))
  case first => as_aux_lemma =>
    by_cases e1 : bt s 0 = 43
    · have d2 : (bt s 0 == 43) = true := beq_iff_eq.mpr e1
      clear e1
      go_wp2
      go_meet
      case rel => exact ⟨1, rfl, ⟨H1.out, by omega, by have := HZ.out; omega⟩⟩
    · have d2 : (bt s 0 == 43) = false := beq_eq_false_iff_ne.mpr e1
      by_cases e2 : bt s 0 = 45
      · have d3 : (bt s 0 == 45) = true := beq_iff_eq.mpr e2
        clear e1 e2
        go_wp2
        go_meet
        case rel => exact ⟨1, rfl, ⟨H2.out, by omega, by have := HZ.out; omega⟩⟩
      · have d3 : (bt s 0 == 45) = false := beq_eq_false_iff_ne.mpr e2
        clear e1 e2
        go_wp2
        go_meet
        case rel => exact ⟨0, rfl, ⟨H1.out, by omega, by omega⟩⟩
  case rest => as_aux_lemma =>
    clear c2 c3 f2 f3 H1 H2 d1 d1b hx0 hz
    obtain ⟨i, rfl, HR0⟩ := hcut
    go_upto_block 1 with (fail)
    go_cut [5, 6, 7] (fun x5 x6 x7 wc => ∃ (i : Int) (sd sg : Bool), x5 = .int .i64 i ∧ x6 = .bool sd ∧ x7 = .bool sg ∧ Aside0 (DecOk w wc b ∧ 0 ≤ i ∧ i ≤ (s.size : Int)))
    case first => as_aux_lemma =>
      go_wp2_with fail
      go_loopg [5, 6, 7] 70001 (fun kq x5 x6 x7 wr => ∃ (i : Int) (sd sg : Bool), x5 = .int .i64 i ∧ x6 = .bool sd ∧ x7 = .bool sg ∧ Aside0 (DecOk w wr b ∧ 0 ≤ i ∧ i ≤ (s.size : Int) ∧ (s.size : Int) < i + kq))
      case atStart => exact ⟨i, false, false, rfl, rfl, rfl, ⟨HR0.out.1, HR0.out.2.1, HR0.out.2.2, by have := HR0.out; have := HS.out; omega⟩⟩
      case round =>
        clear HR0
        obtain ⟨i, sd, sg, rfl, rfl, rfl, HR⟩ := hrel
        have p1 : 0 ≤ i := HR.out.2.1
        have p2 : i ≤ 70000 := by have := HR.out; have := HS.out; omega
        by_cases hi : i < (s.size : Int)
        · have d1 : decide (i < (s.size : Int)) = true := decide_eq_true hi
          have q1 : (i < (s.size : Int)) = True := eq_true hi
          have hx := bt_at s i
          have d2 : (bt s i == 95) = false := beq_eq_false_iff_ne.mpr (HU.out i)
          have HI := Aside0.mk hi
          clear hi
          obtain ⟨f, nd, dp, ng, tr, hd, h0, h8, hf, hl, hb⟩ := HR.out.1.out
          have HD := Aside0.mk hd
          have HQ := Aside0.mk (And.intro hf (And.intro hl hb))
          have p3 : 0 ≤ nd := h0
          have p4 : nd ≤ 800 := h8
          have cn := hd.cnd
          have fn := hd.fr 800
          have cp := hd.cdp
          have fp := hd.fr 801
          have ct := hd.ctr
          have ft := hd.fr 803
          clear hd hf hl hb h0 h8
          by_cases e46 : bt s i = 46
          · have d3 : (bt s i == 46) = true := beq_iff_eq.mpr e46
            clear e46
            cases sd with
            | true =>
              go_wp2
              go_ret
              exact ⟨_, rfl, HR.out.1⟩
            | false =>
              go_wp2
              repeat (go_quiet (fail); try go_wp2)
              go_roundg (gk - 1)
              case measure => have := HR.out; have := HI.out; omega
              case rel => exact ⟨i + 1, true, sg, rfl, rfl, rfl, ⟨⟨f, nd, nd, ng, tr, by repeat (first | exact HD.out | apply Dc.drewN | apply Dc.putDp), p3, p4, HQ.out.1, HQ.out.2.1, (by repeat (first | exact HQ.out.2.2 | apply pw_below_drewN | refine Below.setCell ?_ (by simp) _))⟩, by omega, by have := HI.out; omega, by have := HR.out; omega⟩⟩
          · have d3 : (bt s i == 46) = false := beq_eq_false_iff_ne.mpr e46
            clear e46
            by_cases hdg : 48 ≤ bt s i ∧ bt s i ≤ 57
            · have d4 : decide (48 ≤ bt s i) = true := decide_eq_true hdg.1
              have d5 : decide (bt s i ≤ 57) = true := decide_eq_true hdg.2
              have HDG := Aside0.mk hdg
              by_cases e0 : bt s i = 48 ∧ nd = 0
              · have d6 : (bt s i == 48) = true := beq_iff_eq.mpr e0.1
                have d7 : (nd == 0) = true := beq_iff_eq.mpr e0.2
                clear e0 hdg
                go_wp2
                repeat (go_quiet (fail); try go_wp2)
                go_roundg (gk - 1)
                case measure => have := HR.out; have := HI.out; omega
                case rel => exact ⟨i + 1, sd, true, rfl, rfl, rfl, ⟨⟨f, nd, _, ng, tr, by repeat (first | exact HD.out | apply Dc.drewN | apply Dc.putDp), p3, p4, HQ.out.1, HQ.out.2.1, (by repeat (first | exact HQ.out.2.2 | apply pw_below_drewN | refine Below.setCell ?_ (by simp) _))⟩, by omega, by have := HI.out; omega, by have := HR.out; omega⟩⟩
              · have HE0 := Aside0.mk e0
                clear hdg
                by_cases h8 : nd < 800
                · have d8 : decide (nd < 800) = true := decide_eq_true h8
                  have c4 := HD.out.at (i := nd.toNat) (by omega)
                  have f4 := HD.out.fr nd.toNat
                  by_cases e48 : bt s i = 48
                  · have d6 : (bt s i == 48) = true := beq_iff_eq.mpr e48
                    have d7 : (nd == 0) = false := beq_eq_false_iff_ne.mpr (fun h => e0 ⟨e48, h⟩)
                    clear e48 e0
                    go_wp2
                    go_still_tail 11, (by kernel_rfl)
                    change wpList _ _ _ _ _ wr.drew
                    go_wp2
                    go_roundg (gk - 1)
                    case measure => have := HR.out; have := HI.out; omega
                    case rel => exact ⟨i + 1, sd, true, rfl, rfl, rfl, ⟨⟨_, nd + 1, dp, ng, tr, ((HD.out.put (by omega) _).putNd _).drew, by omega, by omega, digs_snoc p3 HQ.out.1 HDG.out, top_snoc p3 HQ.out.2.1 (fun h => absurd h (beq_eq_false_iff_ne.mp d7)), (((HQ.out.2.2.setCell (by simp) _).setCell (by simp) _).drew)⟩, by omega, by have := HI.out; omega, by have := HR.out; omega⟩⟩
                  · have d6 : (bt s i == 48) = false := beq_eq_false_iff_ne.mpr e48
                    clear e48 e0
                    go_wp2
                    go_still_tail 11, (by kernel_rfl)
                    change wpList _ _ _ _ _ wr.drew
                    go_wp2
                    go_roundg (gk - 1)
                    case measure => have := HR.out; have := HI.out; omega
                    case rel => exact ⟨i + 1, sd, true, rfl, rfl, rfl, ⟨⟨_, nd + 1, dp, ng, tr, ((HD.out.put (by omega) _).putNd _).drew, by omega, by omega, digs_snoc p3 HQ.out.1 HDG.out, top_snoc p3 HQ.out.2.1 (fun _ => by have := HDG.out; have := beq_eq_false_iff_ne.mp d6; omega), (((HQ.out.2.2.setCell (by simp) _).setCell (by simp) _).drew)⟩, by omega, by have := HI.out; omega, by have := HR.out; omega⟩⟩
                · have d8 : decide (nd < 800) = false := decide_eq_false h8
                  by_cases e48 : bt s i = 48
                  · have d6 : (bt s i == 48) = true := beq_iff_eq.mpr e48
                    have d7 : (nd == 0) = false := beq_eq_false_iff_ne.mpr (fun h => e0 ⟨e48, h⟩)
                    have d9 : (bt s i != 48) = false := bne_eq_false_iff_eq.mpr e48
                    clear e48 e0 h8
                    go_wp2
                    repeat (go_quiet (fail); try go_wp2)
                    go_roundg (gk - 1)
                    case measure => have := HR.out; have := HI.out; omega
                    case rel => exact ⟨i + 1, sd, true, rfl, rfl, rfl, ⟨by first | exact HR.out.1 | exact ⟨f, nd, dp, ng, tr, HD.out.drewN _, p3, p4, HQ.out.1, HQ.out.2.1, pw_below_drewN HQ.out.2.2 _⟩, by omega, by have := HI.out; omega, by have := HR.out; omega⟩⟩
                  · have d6 : (bt s i == 48) = false := beq_eq_false_iff_ne.mpr e48
                    have d9 : (bt s i != 48) = true := bne_iff_ne.mpr e48
                    clear e48 e0 h8
                    go_wp2
                    repeat (go_quiet (fail); try go_wp2)
                    go_roundg (gk - 1)
                    case measure => have := HR.out; have := HI.out; omega
                    case rel => exact ⟨i + 1, sd, true, rfl, rfl, rfl, ⟨⟨f, nd, dp, ng, true, by repeat (first | exact HD.out | apply Dc.drewN | apply Dc.putTr), p3, p4, HQ.out.1, HQ.out.2.1, (by repeat (first | exact HQ.out.2.2 | apply pw_below_drewN | refine Below.setCell ?_ (by simp) _))⟩, by omega, by have := HI.out; omega, by have := HR.out; omega⟩⟩
            · by_cases h48 : 48 ≤ bt s i
              · have d4 : decide (48 ≤ bt s i) = true := decide_eq_true h48
                have d5 : decide (bt s i ≤ 57) = false := decide_eq_false (fun h => hdg ⟨h48, h⟩)
                clear h48 hdg
                go_wp2
                repeat (go_quiet (fail); try go_wp2)
                go_meet
                case rel => exact ⟨i, sd, sg, rfl, rfl, rfl, ⟨HR.out.1, p1, HR.out.2.2.1⟩⟩
              · have d4 : decide (48 ≤ bt s i) = false := decide_eq_false h48
                clear h48 hdg
                go_wp2
                repeat (go_quiet (fail); try go_wp2)
                go_meet
                case rel => exact ⟨i, sd, sg, rfl, rfl, rfl, ⟨HR.out.1, p1, HR.out.2.2.1⟩⟩
        · have d1 : decide (i < (s.size : Int)) = false := decide_eq_false hi
          clear hi
          go_wp2
          go_meet
          case rel => exact ⟨i, sd, sg, rfl, rfl, rfl, ⟨HR.out.1, p1, HR.out.2.2.1⟩⟩
    case rest => as_aux_lemma =>
      clear HR0
      obtain ⟨i, sd, sg, rfl, rfl, rfl, HR0⟩ := hcut
      cases sg with
      | false =>
        go_wp2
        go_ret
        exact ⟨_, rfl, HR0.out.1⟩
      | true =>
        go_upto_if 120 with (fail)
        go_cut [5] (fun x5 wc => x5 = .int .i64 i ∧ Aside0 (DecOk w wc b))
        case first => as_aux_lemma =>
          obtain ⟨f, nd, dp, ng, tr, hd, h0, h8, hf, hl, hb⟩ := HR0.out.1.out
          have cn := hd.cnd
          have cp := hd.cdp
          have fp := hd.fr 801
          have HD := Aside0.mk hd
          have HQ := Aside0.mk (And.intro h0 (And.intro h8 (And.intro hf (And.intro hl hb))))
          clear hd h0 h8 hf hl hb
          cases sd with
          | false =>
            go_wp2
            go_meet
            case rel => exact ⟨rfl, ⟨f, nd, nd, ng, tr, by repeat (first | exact HD.out | apply Dc.drewN | apply Dc.putDp), HQ.out.1, HQ.out.2.1, HQ.out.2.2.1, HQ.out.2.2.2.1, (by repeat (first | exact HQ.out.2.2.2.2 | apply pw_below_drewN | refine Below.setCell ?_ (by simp) _))⟩⟩
          | true =>
            go_wp2
            go_meet
            case rel => exact ⟨rfl, ⟨HR0.out.1⟩⟩
        case rest => as_aux_lemma =>
          obtain ⟨rfl, HR1⟩ := hcut
          have HI1 := Aside0.mk (And.intro HR0.out.2.1 HR0.out.2.2)
          have p1 : 0 ≤ i := HI1.out.1
          have p2 : i ≤ 70000 := by have := HI1.out; have := HS.out; omega
          clear HR0
          by_cases hi : i < (s.size : Int)
          · have d1 : decide (i < (s.size : Int)) = true := decide_eq_true hi
            have q1 : (i < (s.size : Int)) = True := eq_true hi
            have hx := bt_at s i
            have HI := Aside0.mk hi
            have d9 : (i != (s.size : Int)) = true := bne_iff_ne.mpr (by omega)
            clear hi
            cases hlow : (bits BinOp.or IntKind.u8 (bt s i) 32 == 101)
            · go_wp2_with (go_at_call 84; refine (lower_walk _ _).mono ?_; rintro e w5 ⟨rfl, rfl⟩)
              go_ret
              exact ⟨_, rfl, HR1.out⟩
            · by_cases h2 : i + 1 ≥ (s.size : Int)
              · have d2 : decide (i + 1 ≥ (s.size : Int)) = true := decide_eq_true h2
                clear h2
                go_wp2_with (go_at_call 84; refine (lower_walk _ _).mono ?_; rintro e w5 ⟨rfl, rfl⟩)
                go_ret
                exact ⟨_, rfl, HR1.out⟩
              · have d2 : decide (i + 1 ≥ (s.size : Int)) = false := decide_eq_false h2
                have q2 : (i + 1 < (s.size : Int)) = True := eq_true (by omega)
                have hx2 := bt_at s (i + 1)
                have HI2 := Aside0.mk (Int.not_le.mp h2)
                clear h2
                go_upto_block 4 with (go_at_call 84; refine (lower_walk _ _).mono ?_; rintro e w5 ⟨rfl, rfl⟩)
                go_cut [5, 8] (fun x5 x8 wc => ∃ j es : Int, x5 = .int .i64 j ∧ x8 = .int .i64 es ∧ Aside0 (DecOk w wc b ∧ 0 ≤ j ∧ j ≤ (s.size : Int)))
                case first => as_aux_lemma =>
                  by_cases e1 : bt s (i + 1) = 43
                  · have d3 : (bt s (i + 1) == 43) = true := beq_iff_eq.mpr e1
                    clear e1
                    go_wp2
                    go_meet
                    case rel => exact ⟨_, _, rfl, rfl, ⟨HR1.out, by omega, by have := HI2.out; omega⟩⟩
                  · have d3 : (bt s (i + 1) == 43) = false := beq_eq_false_iff_ne.mpr e1
                    by_cases e2 : bt s (i + 1) = 45
                    · have d4 : (bt s (i + 1) == 45) = true := beq_iff_eq.mpr e2
                      clear e1 e2
                      go_wp2
                      go_meet
                      case rel => exact ⟨_, _, rfl, rfl, ⟨HR1.out, by omega, by have := HI2.out; omega⟩⟩
                    · have d4 : (bt s (i + 1) == 45) = false := beq_eq_false_iff_ne.mpr e2
                      clear e1 e2
                      go_wp2
                      go_meet
                      case rel => exact ⟨_, _, rfl, rfl, ⟨HR1.out, by omega, by have := HI2.out; omega⟩⟩
                case rest => as_aux_lemma =>
                  clear HR1 HI HI1 HI2 d1 d2 d9 q1 q2 hx hx2 hlow p1 p2
                  obtain ⟨j, es, rfl, rfl, HR2⟩ := hcut
                  have p1 : 0 ≤ j := HR2.out.2.1
                  have p2 : j ≤ 70000 := by have := HR2.out; have := HS.out; omega
                  by_cases hj : j < (s.size : Int)
                  · have d1 : decide (j ≥ (s.size : Int)) = false := decide_eq_false (by omega)
                    have q1 : (j < (s.size : Int)) = True := eq_true hj
                    have hx := bt_at s j
                    by_cases h3 : bt s j < 48
                    · have d2 : decide (bt s j < 48) = true := decide_eq_true h3
                      clear hj h3
                      go_wp2
                      go_ret
                      exact ⟨_, rfl, HR2.out.1⟩
                    have d2 : decide (bt s j < 48) = false := decide_eq_false h3
                    by_cases h4 : bt s j > 57
                    · have d3 : decide (bt s j > 57) = true := decide_eq_true h4
                      clear hj h3 h4
                      go_wp2
                      go_ret
                      exact ⟨_, rfl, HR2.out.1⟩
                    have d3 : decide (bt s j > 57) = false := decide_eq_false h4
                    clear hj h3 h4
                    go_wp2_with fail
                    go_loopg [5, 9] 70001 (fun kq x5 x9 wr => ∃ j e : Int, x5 = .int .i64 j ∧ x9 = .int .i64 e ∧ Aside0 (DecOk w wr b ∧ 0 ≤ j ∧ j ≤ (s.size : Int) ∧ (s.size : Int) < j + kq))
                    case atStart => exact ⟨j, 0, rfl, rfl, ⟨HR2.out.1, HR2.out.2.1, HR2.out.2.2, by have := HR2.out; have := HS.out; omega⟩⟩
                    case round =>
                      clear HR2 d1 d2 d3 q1 hx p1 p2
                      obtain ⟨j, e, rfl, rfl, HR0⟩ := hrel
                      have p1 : 0 ≤ j := HR0.out.2.1
                      have p2 : j ≤ 70000 := by have := HR0.out; have := HS.out; omega
                      by_cases hj : j < (s.size : Int)
                      · have d1 : decide (j < (s.size : Int)) = true := decide_eq_true hj
                        have q1 : (j < (s.size : Int)) = True := eq_true hj
                        have hx := bt_at s j
                        have d2 : (bt s j == 95) = false := beq_eq_false_iff_ne.mpr (HU.out j)
                        have HJ := Aside0.mk hj
                        have d9 : (j != (s.size : Int)) = true := bne_iff_ne.mpr (by omega)
                        by_cases h3 : 48 ≤ bt s j
                        · have d3 : decide (48 ≤ bt s j) = true := decide_eq_true h3
                          by_cases h4 : bt s j ≤ 57
                          · have d4 : decide (bt s j ≤ 57) = true := decide_eq_true h4
                            clear hj h3 h4
                            by_cases h5 : e < 10000
                            · have d5 : decide (e < 10000) = true := decide_eq_true h5
                              clear h5
                              go_wp2
                              go_roundg (gk - 1)
                              case measure => have := HR0.out; have := HJ.out; omega
                              case rel => exact ⟨_, _, rfl, rfl, ⟨HR0.out.1, by omega, by have := HJ.out; omega, by have := HR0.out; omega⟩⟩
                            · have d5 : decide (e < 10000) = false := decide_eq_false h5
                              clear h5
                              go_wp2
                              go_roundg (gk - 1)
                              case measure => have := HR0.out; have := HJ.out; omega
                              case rel => exact ⟨_, _, rfl, rfl, ⟨HR0.out.1, by omega, by have := HJ.out; omega, by have := HR0.out; omega⟩⟩
                          · have d4 : decide (bt s j ≤ 57) = false := decide_eq_false h4
                            clear hj h3 h4
                            obtain ⟨f, nd, dp, ng, tr, hd, h0, h8, hf, hl, hb⟩ := HR0.out.1.out
                            have cp := hd.cdp
                            have fp := hd.fr 801
                            have HD := Aside0.mk hd
                            have HQ := Aside0.mk (And.intro h0 (And.intro h8 (And.intro hf (And.intro hl hb))))
                            clear hd h0 h8 hf hl hb
                            go_wp2
                            repeat (go_quiet (fail); try go_wp2)
                            go_ret
                            exact ⟨_, rfl, ⟨f, nd, _, ng, tr, by repeat (first | exact HD.out | apply Dc.drewN | apply Dc.putDp), HQ.out.1, HQ.out.2.1, HQ.out.2.2.1, HQ.out.2.2.2.1, (by repeat (first | exact HQ.out.2.2.2.2 | apply pw_below_drewN | refine Below.setCell ?_ (by simp) _))⟩⟩
                        · have d3 : decide (48 ≤ bt s j) = false := decide_eq_false h3
                          clear hj h3
                          obtain ⟨f, nd, dp, ng, tr, hd, h0, h8, hf, hl, hb⟩ := HR0.out.1.out
                          have cp := hd.cdp
                          have fp := hd.fr 801
                          have HD := Aside0.mk hd
                          have HQ := Aside0.mk (And.intro h0 (And.intro h8 (And.intro hf (And.intro hl hb))))
                          clear hd h0 h8 hf hl hb
                          go_wp2
                          repeat (go_quiet (fail); try go_wp2)
                          go_ret
                          exact ⟨_, rfl, ⟨f, nd, _, ng, tr, by repeat (first | exact HD.out | apply Dc.drewN | apply Dc.putDp), HQ.out.1, HQ.out.2.1, HQ.out.2.2.1, HQ.out.2.2.2.1, (by repeat (first | exact HQ.out.2.2.2.2 | apply pw_below_drewN | refine Below.setCell ?_ (by simp) _))⟩⟩
                      · have d1 : decide (j < (s.size : Int)) = false := decide_eq_false hj
                        have d9 : (j != (s.size : Int)) = false := bne_eq_false_iff_eq.mpr (by have := HR0.out; omega)
                        clear hj
                        obtain ⟨f, nd, dp, ng, tr, hd, h0, h8, hf, hl, hb⟩ := HR0.out.1.out
                        have cp := hd.cdp
                        have fp := hd.fr 801
                        have HD := Aside0.mk hd
                        have HQ := Aside0.mk (And.intro h0 (And.intro h8 (And.intro hf (And.intro hl hb))))
                        clear hd h0 h8 hf hl hb
                        go_wp2
                        repeat (go_quiet (fail); try go_wp2)
                        go_ret
                        exact ⟨_, rfl, ⟨f, nd, _, ng, tr, by repeat (first | exact HD.out | apply Dc.drewN | apply Dc.putDp), HQ.out.1, HQ.out.2.1, HQ.out.2.2.1, HQ.out.2.2.2.1, (by repeat (first | exact HQ.out.2.2.2.2 | apply pw_below_drewN | refine Below.setCell ?_ (by simp) _))⟩⟩
                  · have d1 : decide (j ≥ (s.size : Int)) = true := decide_eq_true (by omega)
                    clear hj
                    go_wp2
                    go_ret
                    exact ⟨_, rfl, HR2.out.1⟩
          · have d1 : decide (i < (s.size : Int)) = false := decide_eq_false hi
            have d9 : (i != (s.size : Int)) = false := bne_eq_false_iff_eq.mpr (by have := HI1.out; omega)
            clear hi
            go_wp2
            go_ret
            exact ⟨_, rfl, HR1.out⟩
end Go.Proofs.YtldfejbmdonaoaaDoor.De