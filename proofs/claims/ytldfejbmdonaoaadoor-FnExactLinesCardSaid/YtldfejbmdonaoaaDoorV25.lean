/- Joined by a program of mine from texts of this claim: Df. -/
import Derived.Test.YtldfejbmdonaoaaDoorV24
import Derived.ScopeJumps
namespace Go.Proofs.YtldfejbmdonaoaaDoor.Df
open Go.RowKit YtldfejbmdonaoaaDoorW.PrintWords YtldfejbmdonaoaaDoorW.PrintLast YtldfejbmdonaoaaDoorW.PrintMore Dm Dw Dr Dl Ds Dt
set_option linter.unusedVariables false
set_option linter.unusedSimpArgs false
def ExitTwo (J0 J1 : Act → World → Prop) (Q : Exit → Act → World → Prop) : Exit → Act → World → Prop
  | .goto 0, a, w => J0 a w
  | .goto 1, a, w => J1 a w
  | .goto _, _, _ => False
  | e, a, w => Q e a w
def ExitNone (Q : Exit → Act → World → Prop) : Exit → Act → World → Prop
  | .goto _, _, _ => False
  | e, a, w => Q e a w
theorem two_zero {J0 J1 : Act → World → Prop} {Q Q1 : Exit → Act → World → Prop} {a : Act} {w : World} (h : ExitTwo J0 J1 Q = Q1) (hj : J0 a w) : Q1 (.goto 0) a w := by subst h; exact hj
theorem two_one {J0 J1 : Act → World → Prop} {Q Q1 : Exit → Act → World → Prop} {a : Act} {w : World} (h : ExitTwo J0 J1 Q = Q1) (hj : J1 a w) : Q1 (.goto 1) a w := by subst h; exact hj
theorem none_ret {Q Q1 : Exit → Act → World → Prop} {a : Act} {w : World} (h : ExitNone Q = Q1) (hj : Q .ret a w) : Q1 .ret a w := by subst h; exact hj
theorem wp_scope_two {P : Program} {a : Act} {w : World} {Q : Exit → Act → World → Prop} {c r0 r1 : Code} (h0 : findLabel c 0 = some r0) (h1 : findLabel c 1 = some r1)
    (first : c.wp P (ExitTwo (fun a' w' => r0.wp P (ExitNone Q) a' w') (fun a' w' => r1.wp P (ExitNone Q) a' w') Q) a w) : (Code.scope c).wp P Q a w := by
  intro b k cs
  have key : ∀ (l : Nat) (r : Code), findLabel c l = some r → ∀ a w, r.wp P (ExitNone Q) a w → ∃ e a' w', Q e a' w' ∧ Arrives P (lone (b.at a (.code r :: .inScope c :: k)) cs w) b k cs e a' w' := by
    intro l r hf a w hw
    obtain ⟨e, a₁, w₁, hq, harr⟩ := hw b (.inScope c :: k) cs
    cases e with
    | normal => exact ⟨.normal, a₁, w₁, hq, Steps.trans harr (.one step_inScope)⟩
    | exit id => exact ⟨.exit id, a₁, w₁, hq, fun k' hk => harr k' (by simp [exitTo, hk])⟩
    | goto l' => exact hq.elim
    | ret => exact ⟨_, a₁, w₁, hq, harr⟩
    | panic ch => exact ⟨_, a₁, w₁, hq, harr⟩
    | outgrown => exact ⟨_, a₁, w₁, hq, harr⟩
  obtain ⟨e, a₁, w₁, hq, harr⟩ := first b (.inScope c :: k) cs
  cases e with
  | normal => exact ⟨.normal, a₁, w₁, hq, .head step_scope (Steps.trans harr (.one step_inScope))⟩
  | exit id => exact ⟨.exit id, a₁, w₁, hq, fun k' hk => .head step_scope (harr k' (by simp [exitTo, hk]))⟩
  | goto l' =>
    have hg : ∀ r, findLabel c l' = some r → gotoIn l' (.inScope c :: k) = some (.code r :: .inScope c :: k) := fun r hf => by simp [gotoIn, hf]
    match l', hq with
    | 0, hq =>
      obtain ⟨e₂, a₂, w₂, hq₂, harr₂⟩ := key 0 r0 h0 a₁ w₁ hq
      exact ⟨e₂, a₂, w₂, hq₂, .of_steps (.head step_scope (harr _ (hg _ h0))) harr₂⟩
    | 1, hq =>
      obtain ⟨e₂, a₂, w₂, hq₂, harr₂⟩ := key 1 r1 h1 a₁ w₁ hq
      exact ⟨e₂, a₂, w₂, hq₂, .of_steps (.head step_scope (harr _ (hg _ h1))) harr₂⟩
    | l + 2, hq => exact hq.elim
  | ret => exact ⟨_, a₁, w₁, hq, .of_steps (.one step_scope) harr⟩
  | panic ch => exact ⟨_, a₁, w₁, hq, .of_steps (.one step_scope) harr⟩
  | outgrown => exact ⟨_, a₁, w₁, hq, .of_steps (.one step_scope) harr⟩
structure Pows (W : World) (lim : Nat) : Prop where
  mk :: (out : 7 < lim ∧ ∃ B o, B < lim ∧ W.cell? ⟨7, 0, none⟩ = some (.slice (some ⟨B, o, none⟩) 9 9) ∧
    ∀ j : Nat, j < 9 → ∃ p : Int, W.cell? ⟨B, o + j, none⟩ = some (.int .i64 p) ∧ 1 ≤ p ∧ p ≤ 27)
theorem Pows.below {W W' : World} {lim : Nat} (h : Pows W lim) (hb : Below lim W W') : Pows W' lim := by
  obtain ⟨hg, B, o, hB, hc, hk⟩ := h.out
  refine ⟨hg, B, o, hB, by rw [hb.cell (p := ⟨_, 0, none⟩) hg]; exact hc, fun k h1 => ?_⟩
  obtain ⟨p, h3, h5⟩ := hk k h1
  exact ⟨p, by rw [hb.cell (p := ⟨B, _, none⟩) hB]; exact h3, h5⟩
structure Info64 (W : World) (lim : Nat) : Prop where
  mk :: (out : 5 < lim ∧ W.cell? ⟨5, 0, none⟩ = some (.int .u64 52) ∧ W.cell? ⟨5, 1, none⟩ = some (.int .u64 11) ∧ W.cell? ⟨5, 2, none⟩ = some (.int .i64 (-1023)))
theorem Info64.below {W W' : World} {lim : Nat} (h : Info64 W lim) (hb : Below lim W W') : Info64 W' lim := by
  obtain ⟨hg, h0, h1, h2⟩ := h.out
  exact ⟨hg, by rw [hb.cell (p := ⟨_, 0, none⟩) hg]; exact h0, by rw [hb.cell (p := ⟨_, 1, none⟩) hg]; exact h1, by rw [hb.cell (p := ⟨_, 2, none⟩) hg]; exact h2⟩
theorem shiftR_at (w : World) (b : Nat) (f : Nat → Int) (nd dp : Int) (ng tr : Bool) (K : Int) (h : Dc w b f nd dp ng tr) (h0 : 1 ≤ nd) (h1 : nd ≤ 800) (hf : Digs f nd.toNat) (hl : 49 ≤ f 0) (hn1 : K ≤ -1) (hn2 : -100000 ≤ K) (hd1 : -500000000 ≤ dp) (hd2 : dp ≤ 500000000) :
    Calls Tryd.prog 97 #[.pointer (some ⟨b, 0, none⟩), .int .i64 K] w fun e w' => e = .returned (.tuple #[]) ∧ RightG w w' b f dp ng (-K).toNat := by
  have e : K = -((-K).toNat : Int) := by omega
  have := shiftR_walk w b f nd dp ng tr (-K).toNat h h0 h1 hf hl (by omega) (by omega) hd1 hd2
  rw [← e] at this
  exact this
theorem shiftL_at (w : World) (b : Nat) (f : Nat → Int) (nd dp : Int) (ng tr : Bool) (K : Int) (h : Dc w b f nd dp ng tr) (h0 : 1 ≤ nd) (h1 : nd ≤ 800) (hf : Digs f nd.toNat) (hl : 49 ≤ f 0) (hk1 : 1 ≤ K) (hk2 : K ≤ 60) (hd1 : -1000000000 ≤ dp) (hd2 : dp ≤ 1000000000) (hT : Cheats w b) :
    Calls Tryd.prog 97 #[.pointer (some ⟨b, 0, none⟩), .int .i64 K] w fun e w' => e = .returned (.tuple #[]) ∧ LeftS w w' b f dp ng := by
  have e : K = (K.toNat : Int) := by omega
  have e2 : nd = (nd.toNat : Int) := by omega
  rw [e2] at h
  have := shiftL_walk w b f nd.toNat dp ng tr K.toNat h (by omega) (by omega) hf hl (by omega) (by omega) hd1 hd2 hT
  rw [← e] at this
  exact this
structure Mid2 (w0 w' : World) (b : Nat) (f : Nat → Int) (nd dp : Int) (ng tr : Bool) : Prop where
  dc : Dc w' b f nd dp ng tr
  n1 : 1 ≤ nd
  n8 : nd ≤ 800
  digs : Digs f nd.toNat
  top : 49 ≤ f 0
  below : Below b w0 w'
def BitsPost (w : World) (b : Nat) (e : Ending) (w' : World) : Prop := ∃ u o, e = .returned (.tuple #[.int .u64 u, .bool o]) ∧ Below b w w'
set_option maxRecDepth 100000 in
set_option maxHeartbeats 8000000 in
theorem bits_walk (w : World) (b : Nat) (f : Nat → Int) (nd dp : Int) (ng tr : Bool) (h : Mid2 w w b f nd dp ng tr) (hT : Cheats w b) (hP : Pows w b) (hI : Info64 w b) :
    Calls Tryd.prog 78 #[.pointer (some ⟨b, 0, none⟩), .pointer (some ⟨5, 0, none⟩)] w (BitsPost w b) := by
  have c0 := h.dc.cnd
  have c1 := h.dc.cdp
  have d0 : (nd == 0) = false := beq_eq_false_iff_ne.mpr (by have := h.n1; omega)
  have i0 := hI.out.2.1
  have i1 := hI.out.2.2.1
  have i2 := hI.out.2.2.2
  have cng := h.dc.cng
  have H0 := Aside0.mk h
  have HT := Aside0.mk (And.intro hT (And.intro hP hI))
  clear h hT hP hI
  by_cases hbig : dp > 310
  · have d1 : decide (dp > 310) = true := decide_eq_true hbig
    clear hbig
    go_enter Tryd.func78, Tryd.ntmps78
    go_wp2_with fail
    refine wp_scope_two rfl rfl ?_
    generalize hQ : ExitTwo _ _ _ = Q1
    go_wp2
    go_step3
    simp only [Exit.then, Exit.inBlock]
    refine two_one hQ ?_
    clear hQ
    generalize hQ2 : ExitNone _ = Q2
    go_wp2_with fail
    repeat (go_quiet (fail); try go_wp2_with fail)
    refine wp_label ?_
    go_wp2_with fail
    repeat (go_quiet (fail); try go_wp2_with fail)
    all_goals
      refine none_ret hQ2 ?_
      go_ret2
      exact ⟨_, _, rfl, by repeat (first | exact H0.out.below | apply pw_below_drewN)⟩
  have d1 : decide (dp > 310) = false := decide_eq_false hbig
  by_cases hsm : dp < -330
  · have d2 : decide (dp < -330) = true := decide_eq_true hsm
    clear hbig hsm
    go_enter Tryd.func78, Tryd.ntmps78
    go_wp2_with fail
    refine wp_scope_two rfl rfl ?_
    generalize hQ : ExitTwo _ _ _ = Q1
    go_wp2
    go_step3
    simp only [Exit.then, Exit.inBlock]
    refine two_zero hQ ?_
    clear hQ
    generalize hQ2 : ExitNone _ = Q2
    go_wp2_with fail
    repeat (go_quiet (fail); try go_wp2_with fail)
    all_goals
      refine none_ret hQ2 ?_
      go_ret2
      exact ⟨_, _, rfl, by repeat (first | exact H0.out.below | apply pw_below_drewN)⟩
  have d2 : decide (dp < -330) = false := decide_eq_false hsm
  have HDP := Aside0.mk (And.intro (Int.not_lt.mp hsm) (Int.not_lt.mp hbig))
  clear hbig hsm
  go_enter Tryd.func78, Tryd.ntmps78
  go_wp2_with fail
  refine wp_scope_two rfl rfl ?_
  generalize hQ : ExitTwo _ _ _ = Q1
  go_upto_block 0 with (fail)
  go_cut [6, 8] from 35 to 60 (fun x6 x8 wc => ∃ (exp : Int) (f' : Nat → Int) (nd' dp' : Int) (tr' : Bool), x6 = .int .i64 exp ∧ Aside0 (Mid2 w wc b f' nd' dp' ng tr' ∧ 0 ≤ exp ∧ exp ≤ 90000 ∧ -330 ≤ dp' ∧ dp' ≤ 0))
  case first => as_aux_lemma =>
    clear i0 i1 i2 cng c0 c1 d0 d1 d2
    go_wp2_with fail
    go_loopg [6] 3200 (fun kq x6 wr => ∃ (exp : Int) (f' : Nat → Int) (nd' dp' : Int) (tr' : Bool), x6 = .int .i64 exp ∧ Aside0 (Mid2 w wr b f' nd' dp' ng tr' ∧ 0 ≤ exp ∧ exp + 27 * kq ≤ 86400 ∧ 10 * dp' + f' 0 ≤ kq ∧ -330 ≤ dp' ∧ dp' ≤ 310))
    case atStart => exact ⟨0, f, nd, dp, tr, rfl, ⟨H0.out, by omega, by omega, by have := HDP.out; have := H0.out.digs 0 (by have := H0.out.n1; omega); omega, HDP.out.1, HDP.out.2⟩⟩
    case round =>
      obtain ⟨exp, f', nd', dp', tr', rfl, HR⟩ := hrel
      obtain ⟨hM, e0, e1, em, dl, du⟩ := HR.out
      have c1 := hM.dc.cdp
      have p1 : 0 ≤ exp := e0
      have p2 : exp ≤ 86400 := by omega
      have h49 := hM.top
      by_cases hd : dp' > 0
      · have d1 : decide (dp' > 0) = true := decide_eq_true hd
        obtain ⟨_, B, o, _, hcp, hpp⟩ := (HT.out.2.1.below hM.below).out
        have HM := Aside0.mk hM
        have HS := Aside0.mk (fun W (hW : Dc W b f' nd' dp' ng tr') (K : Int) (h1 : K ≤ -1) (h2 : -100000 ≤ K) => shiftR_at W b f' nd' dp' ng tr' K hW hM.n1 hM.n8 hM.digs hM.top h1 h2 (by omega) (by omega))
        by_cases h9 : dp' ≥ 9
        · have d2 : decide (dp' ≥ 9) = true := decide_eq_true h9
          have HX := Aside0.mk (And.intro em (And.intro dl (And.intro du (And.intro e1 (And.intro hd h49)))))
          clear hM e0 e1 em dl du h49 hd h9 hpp
          go_wp2_with fail
          repeat (go_quiet (fail); try go_wp2_with fail)
          refine (HS.out _ (by repeat (first | exact HM.out.dc | apply Dc.drewN)) _ (by omega) (by omega)).mono ?_
          rintro e w3 ⟨rfl, HT3⟩
          go_wp2
          go_roundg (gk - 1)
          case measure => have := HX.out; omega
          case rel =>
            obtain ⟨f3, nd3, dp3, tr3, hc3, hf3, h49, h13, h83, hle3, _, hdd, hb3⟩ := HT3.out
            obtain ⟨hge3, hd3⟩ := hdd (by omega)
            obtain ⟨x1, x2, x3, x4, x5, x6⟩ := HX.out
            have h57 := hf3 0 (by omega)
            have hor : dp3 < dp' ∨ dp3 = dp' ∧ f3 0 < f' 0 := by
              by_cases e : dp3 = dp'
              · exact .inr ⟨e, hd3 e⟩
              · exact .inl (by omega)
            exact ⟨_, f3, nd3, dp3, tr3, rfl, ⟨⟨hc3, h13, h83, hf3, h49, by first | exact HM.out.below.trans hb3 | exact (pw_below_drewN HM.out.below _).trans hb3 | exact (pw_below_drewN (pw_below_drewN HM.out.below _) _).trans hb3⟩, by omega, by omega, by omega, by omega, by omega⟩⟩
        · have d2 : decide (dp' ≥ 9) = false := decide_eq_false h9
          obtain ⟨pv, hcj, pv1, pv2⟩ := hpp dp'.toNat (by omega)
          have p5 : 0 ≤ dp' := by omega
          have p6 : dp' < 9 := by omega
          have HX := Aside0.mk (And.intro em (And.intro dl (And.intro du (And.intro e1 (And.intro hd h49)))))
          clear hM e0 e1 em dl du h49 hd h9 hpp
          go_wp2_with fail
          repeat (go_quiet (fail); try go_wp2_with fail)
          refine (HS.out _ (by repeat (first | exact HM.out.dc | apply Dc.drewN)) _ (by omega) (by omega)).mono ?_
          rintro e w3 ⟨rfl, HT3⟩
          go_wp2
          go_roundg (gk - 1)
          case measure => have := HX.out; omega
          case rel =>
            obtain ⟨f3, nd3, dp3, tr3, hc3, hf3, h49, h13, h83, hle3, _, hdd, hb3⟩ := HT3.out
            obtain ⟨hge3, hd3⟩ := hdd (by omega)
            obtain ⟨x1, x2, x3, x4, x5, x6⟩ := HX.out
            have h57 := hf3 0 (by omega)
            have hor : dp3 < dp' ∨ dp3 = dp' ∧ f3 0 < f' 0 := by
              by_cases e : dp3 = dp'
              · exact .inr ⟨e, hd3 e⟩
              · exact .inl (by omega)
            exact ⟨_, f3, nd3, dp3, tr3, rfl, ⟨⟨hc3, h13, h83, hf3, h49, by first | exact HM.out.below.trans hb3 | exact (pw_below_drewN HM.out.below _).trans hb3 | exact (pw_below_drewN (pw_below_drewN HM.out.below _) _).trans hb3⟩, by omega, by omega, by omega, by omega, by omega⟩⟩
      · have d1 : decide (dp' > 0) = false := decide_eq_false hd
        clear hM e0 e1 em dl du h49
        go_wp2
        repeat (go_quiet (fail); try go_wp2)
        go_meet
        case rel => exact ⟨exp, f', nd', dp', tr', rfl, ⟨HR.out.1, p1, by omega, HR.out.2.2.2.2.1, by omega⟩⟩
  case rest => as_aux_lemma =>
    clear i0 i1 i2 cng c0 c1 d0 d1 d2
    obtain ⟨exp, f', nd', dp', tr', rfl, HR0⟩ := hcut
    have em0 := HR0.out
    obtain ⟨hM0, e00, e01, dl0, du0⟩ := em0
    have p1 : 0 ≤ exp := e00
    have p2 : exp ≤ 90000 := e01
    clear hM0 e00 e01 dl0 du0
    go_upto_block 2 with (fail)
    go_cut [6, 9] from 61 to 102 (fun x6 x9 wc => ∃ (exp : Int) (f' : Nat → Int) (nd' dp' : Int) (tr' : Bool), x6 = .int .i64 exp ∧ Aside0 (Mid2 w wc b f' nd' dp' ng tr' ∧ -100000 ≤ exp ∧ exp ≤ 90000 ∧ -330 ≤ dp' ∧ dp' ≤ 40))
    case first => as_aux_lemma =>
      go_wp2_with fail
      go_loopg [6] 3400 (fun kq x6 wr => ∃ (exp : Int) (f' : Nat → Int) (nd' dp' : Int) (tr' : Bool), x6 = .int .i64 exp ∧ Aside0 (Mid2 w wr b f' nd' dp' ng tr' ∧ exp ≤ 90000 ∧ 27 * kq - 91800 ≤ exp ∧ -10 * dp' - f' 0 + 58 ≤ kq ∧ -330 ≤ dp' ∧ dp' ≤ 40))
      case atStart => exact ⟨exp, f', nd', dp', tr', rfl, ⟨HR0.out.1, p2, by omega, by have := HR0.out; have := HR0.out.1.top; omega, HR0.out.2.2.2.1, by have := HR0.out; omega⟩⟩
      case round =>
        clear HR0 p1 p2
        obtain ⟨exp, f', nd', dp', tr', rfl, HR⟩ := hrel
        obtain ⟨hM, e1, e0, em, dl, du⟩ := HR.out
        have c1 := hM.dc.cdp
        have c2 := hM.dc.at (i := 0) (by decide)
        have p1 : -100000 ≤ exp := by omega
        have p2 : exp ≤ 90000 := e1
        have h49 := hM.top
        have h57 := hM.digs 0 (by have := hM.n1; omega)
        have p7 : dp' ≤ 40 := du
        have p8 : -330 ≤ dp' := dl
        by_cases hin : dp' < 0 ∨ dp' = 0 ∧ f' 0 < 53
        · obtain ⟨_, B, o, _, hcp, hpp⟩ := (HT.out.2.1.below hM.below).out
          have HM := Aside0.mk hM
          have HS := Aside0.mk (fun W (hW : Dc W b f' nd' dp' ng tr') (hTT : Cheats W b) (K : Int) (h1 : 1 ≤ K) (h2 : K ≤ 60) => shiftL_at W b f' nd' dp' ng tr' K hW hM.n1 hM.n8 hM.digs hM.top h1 h2 (by omega) (by omega) hTT)
          have HX := Aside0.mk (And.intro em (And.intro dl (And.intro du (And.intro e0 (And.intro h49 h57)))))
          have p6 : dp' ≤ 0 := by omega
          by_cases h9 : -dp' ≥ 9
          · have d2 : decide (-dp' ≥ 9) = true := decide_eq_true h9
            have d1 : decide (dp' < 0) = true := decide_eq_true (by omega)
            clear hM e0 e1 em dl du h49 h57 hin h9 hpp
            go_wp2_with fail
            repeat (go_quiet (fail); try go_wp2_with fail)
            refine (HS.out _ (by repeat (first | exact HM.out.dc | apply Dc.drewN)) (HT.out.1.below (by repeat (first | exact HM.out.below | apply pw_below_drewN))) _ (by omega) (by omega)).mono ?_
            rintro e w3 ⟨rfl, HT3⟩
            go_wp2
            go_roundg (gk - 1)
            case measure => have := HX.out; omega
            case rel =>
              obtain ⟨f3, nd3, dp3, tr3, hc3, hf3, h49, h13, h83, hle3, hge3, hd3, hb3⟩ := HT3.out
              obtain ⟨x1, x2, x3, x4, x5, x6⟩ := HX.out
              have h57 := hf3 0 (by omega)
              have hor : dp' < dp3 ∨ dp3 = dp' ∧ f' 0 < f3 0 := by
                by_cases e : dp3 = dp'
                · exact .inr ⟨e, hd3 e⟩
                · exact .inl (by omega)
              exact ⟨_, f3, nd3, dp3, tr3, rfl, ⟨⟨hc3, h13, h83, hf3, h49, by first | exact HM.out.below.trans hb3 | exact (pw_below_drewN HM.out.below _).trans hb3 | exact (pw_below_drewN (pw_below_drewN HM.out.below _) _).trans hb3 | exact (pw_below_drewN (pw_below_drewN (pw_below_drewN HM.out.below _) _) _).trans hb3⟩, by omega, by omega, by omega, by omega, by omega⟩⟩
          · have d2 : decide (-dp' ≥ 9) = false := decide_eq_false h9
            obtain ⟨pv, hcj, pv1, pv2⟩ := hpp (-dp').toNat (by omega)
            have p9 : 0 ≤ -dp' := by omega
            have p10 : -dp' < 9 := by omega
            clear hM e0 e1 em dl du h49 h57 h9 hpp
            rcases hin with hin | ⟨hz, hlt⟩
            · have d1 : decide (dp' < 0) = true := decide_eq_true hin
              clear hin
              go_wp2_with fail
              repeat (go_quiet (fail); try go_wp2_with fail)
              refine (HS.out _ (by repeat (first | exact HM.out.dc | apply Dc.drewN)) (HT.out.1.below (by repeat (first | exact HM.out.below | apply pw_below_drewN))) _ (by omega) (by omega)).mono ?_
              rintro e w3 ⟨rfl, HT3⟩
              go_wp2
              go_roundg (gk - 1)
              case measure => have := HX.out; omega
              case rel =>
                obtain ⟨f3, nd3, dp3, tr3, hc3, hf3, h49, h13, h83, hle3, hge3, hd3, hb3⟩ := HT3.out
                obtain ⟨x1, x2, x3, x4, x5, x6⟩ := HX.out
                have h57 := hf3 0 (by omega)
                have hor : dp' < dp3 ∨ dp3 = dp' ∧ f' 0 < f3 0 := by
                  by_cases e : dp3 = dp'
                  · exact .inr ⟨e, hd3 e⟩
                  · exact .inl (by omega)
                exact ⟨_, f3, nd3, dp3, tr3, rfl, ⟨⟨hc3, h13, h83, hf3, h49, by first | exact HM.out.below.trans hb3 | exact (pw_below_drewN HM.out.below _).trans hb3 | exact (pw_below_drewN (pw_below_drewN HM.out.below _) _).trans hb3 | exact (pw_below_drewN (pw_below_drewN (pw_below_drewN HM.out.below _) _) _).trans hb3⟩, by omega, by omega, by omega, by omega, by omega⟩⟩
            · have d1 : decide (dp' < 0) = false := decide_eq_false (by omega)
              have d3 : (dp' == 0) = true := beq_iff_eq.mpr hz
              have d4 : decide (f' 0 < 53) = true := decide_eq_true hlt
              have HZ := Aside0.mk hz
              clear hz hlt
              go_wp2_with fail
              repeat (go_quiet (fail); try go_wp2_with fail)
              refine (HS.out _ (by repeat (first | exact HM.out.dc | apply Dc.drewN)) (HT.out.1.below (by repeat (first | exact HM.out.below | apply pw_below_drewN))) _ (by omega) (by omega)).mono ?_
              rintro e w3 ⟨rfl, HT3⟩
              go_wp2
              go_roundg (gk - 1)
              case measure => have := HX.out; omega
              case rel =>
                obtain ⟨f3, nd3, dp3, tr3, hc3, hf3, h49, h13, h83, hle3, hge3, hd3, hb3⟩ := HT3.out
                obtain ⟨x1, x2, x3, x4, x5, x6⟩ := HX.out
                have h57 := hf3 0 (by omega)
                have hor : dp' < dp3 ∨ dp3 = dp' ∧ f' 0 < f3 0 := by
                  by_cases e : dp3 = dp'
                  · exact .inr ⟨e, hd3 e⟩
                  · exact .inl (by omega)
                exact ⟨_, f3, nd3, dp3, tr3, rfl, ⟨⟨hc3, h13, h83, hf3, h49, by first | exact HM.out.below.trans hb3 | exact (pw_below_drewN HM.out.below _).trans hb3 | exact (pw_below_drewN (pw_below_drewN HM.out.below _) _).trans hb3 | exact (pw_below_drewN (pw_below_drewN (pw_below_drewN HM.out.below _) _) _).trans hb3⟩, by omega, by omega, by omega, by omega, by omega⟩⟩
        · have HX := Aside0.mk (And.intro dl du)
          clear hM e0 e1 em dl du h49 h57
          by_cases hz : dp' = 0
          · have d1 : decide (dp' < 0) = false := decide_eq_false (by omega)
            have d3 : (dp' == 0) = true := beq_iff_eq.mpr hz
            have d4 : decide (f' 0 < 53) = false := decide_eq_false (by omega)
            clear hin hz
            go_wp2
            repeat (go_quiet (fail); try go_wp2)
            go_meet
            case rel => exact ⟨exp, f', nd', dp', tr', rfl, ⟨HR.out.1, p1, p2, HX.out.1, HX.out.2⟩⟩
          · have d1 : decide (dp' < 0) = false := decide_eq_false (by omega)
            have d3 : (dp' == 0) = false := beq_eq_false_iff_ne.mpr hz
            clear hin hz
            go_wp2
            repeat (go_quiet (fail); try go_wp2)
            go_meet
            case rel => exact ⟨exp, f', nd', dp', tr', rfl, ⟨HR.out.1, p1, p2, HX.out.1, HX.out.2⟩⟩
    case rest => as_aux_lemma =>
      clear HR0 p1 p2
      obtain ⟨exp, f', nd', dp', tr', rfl, HR⟩ := hcut
      have p1 : -100000 ≤ exp := HR.out.2.1
      have p2 : exp ≤ 90000 := HR.out.2.2.1
      have i2 := (HT.out.2.2.below HR.out.1.below).out.2.2.2
      go_upto_if 111 with (fail)
      go_cut [6, 10] from 105 to 125 (fun x6 x10 wc => ∃ (exp : Int) (f' : Nat → Int) (nd' dp' : Int) (tr' : Bool), x6 = .int .i64 exp ∧ Aside0 (Mid2 w wc b f' nd' dp' ng tr' ∧ -1022 ≤ exp ∧ exp ≤ 90000 ∧ -4000000 ≤ dp' ∧ dp' ≤ 40))
      case first => as_aux_lemma =>
        have HM := Aside0.mk HR.out.1
        have HX := Aside0.mk HR.out.2.2.2
        have HS := Aside0.mk (fun W (hW : Dc W b f' nd' dp' ng tr') (K : Int) (h1 : K ≤ -1) (h2 : -100000 ≤ K) => shiftR_at W b f' nd' dp' ng tr' K hW HM.out.n1 HM.out.n8 HM.out.digs HM.out.top h1 h2 (by have := HX.out; omega) (by have := HX.out; omega))
        by_cases hlt : exp - 1 < -1022
        · have d1 : decide (exp - 1 < -1022) = true := decide_eq_true hlt
          go_wp2_with fail
          refine (HS.out _ (by repeat (first | exact HM.out.dc | apply Dc.drewN)) _ (by omega) (by omega)).mono ?_
          rintro e w3 ⟨rfl, HT3⟩
          go_wp2
          go_meet
          case rel =>
            obtain ⟨f3, nd3, dp3, tr3, hc3, hf3, h49, h13, h83, hle3, hge3, _, hb3⟩ := HT3.out
            exact ⟨_, f3, nd3, dp3, tr3, rfl, ⟨⟨hc3, h13, h83, hf3, h49, HM.out.below.trans hb3⟩, by omega, by omega, by have := HX.out; omega, by have := HX.out; omega⟩⟩
        · have d1 : decide (exp - 1 < -1022) = false := decide_eq_false hlt
          go_wp2
          go_meet
          case rel => exact ⟨_, f', nd', dp', tr', rfl, ⟨HM.out, by omega, by omega, by have := HX.out; omega, HX.out.2⟩⟩
      case rest => as_aux_lemma =>
        clear HR p1 p2 i2
        obtain ⟨exp, f', nd', dp', tr', rfl, HR⟩ := hcut
        have p1 : -1022 ≤ exp := HR.out.2.1
        have p2 : exp ≤ 90000 := HR.out.2.2.1
        have hi := (HT.out.2.2.below HR.out.1.below).out
        have i0 := hi.2.1
        have i1 := hi.2.2.1
        have i2 := hi.2.2.2
        clear hi
        by_cases hov : 2047 ≤ exp + 1023
        · have d1 : decide (2047 ≤ exp + 1023) = true := decide_eq_true hov
          have cng := HR.out.1.dc.cng
          clear hov
          go_wp2_with fail
          go_quiet (fail)
          go_wp2_with fail
          go_step3
          simp only [Exit.then, Exit.inBlock]
          refine two_one hQ ?_
          clear hQ
          generalize hQ2 : ExitNone _ = Q2
          go_wp2_with fail
          repeat (go_quiet (fail); try go_wp2_with fail)
          refine wp_label ?_
          go_wp2_with fail
          repeat (go_quiet (fail); try go_wp2_with fail)
          all_goals
            refine none_ret hQ2 ?_
            go_ret2
            exact ⟨_, _, rfl, by repeat (first | exact HR.out.1.below | apply pw_below_drewN)⟩
        · have d1 : decide (2047 ≤ exp + 1023) = false := decide_eq_false hov
          have HM := Aside0.mk HR.out.1
          have HX := Aside0.mk HR.out.2.2.2
          have HS := Aside0.mk (fun W (hW : Dc W b f' nd' dp' ng tr') (hTT : Cheats W b) => shiftL_at W b f' nd' dp' ng tr' 53 hW HM.out.n1 HM.out.n8 HM.out.digs HM.out.top (by decide) (by decide) (by have := HX.out; omega) (by have := HX.out; omega) hTT)
          clear hov
          go_wp2_with fail
          go_quiet (fail)
          go_wp2_with fail
          refine (HS.out _ (by repeat (first | exact HM.out.dc | apply Dc.drewN)) (HT.out.1.below (by repeat (first | exact HM.out.below | apply pw_below_drewN)))).mono ?_
          rintro e w3 ⟨rfl, HT3⟩
          obtain ⟨f3, nd3, dp3, tr3, hc3, hf3, h49, h13, h83, _, _, _, hb3⟩ := HT3.out
          have HM3 := Aside0.mk (show Mid2 w w3 b f3 nd3 dp3 ng tr3 from ⟨hc3, h13, h83, hf3, h49, by first | exact HM.out.below.trans hb3 | exact (pw_below_drewN HM.out.below _).trans hb3⟩)
          clear hc3 hf3 h49 h13 h83 hb3 HT3 HM HS HX HR i0 i1 i2 d1
          go_wp2_with fail
          refine (rounded_walk _ b f3 nd3 dp3 ng tr3 HM3.out.dc (by have := HM3.out.n1; omega) HM3.out.n8 HM3.out.digs).mono ?_
          rintro e w4 ⟨u, rfl, u0, u1, hd4⟩
          have HM4 := Aside0.mk (show Mid2 w w4 b f3 nd3 dp3 ng tr3 from by obtain ⟨m, rfl⟩ := hd4.out; exact ⟨HM3.out.dc.drewN _, HM3.out.n1, HM3.out.n8, HM3.out.digs, HM3.out.top, pw_below_drewN HM3.out.below _⟩)
          have hi := (HT.out.2.2.below HM4.out.below).out
          have i0 := hi.2.1
          have i1 := hi.2.2.1
          have i2 := hi.2.2.2
          clear hi hd4 HM3
          go_upto_if 155 with (fail)
          go_cut [6, 7] from 156 to 172 (fun x6 x7 wc => ∃ (exp u : Int), x6 = .int .i64 exp ∧ x7 = .int .u64 u ∧ Aside0 (Mid2 w wc b f3 nd3 dp3 ng tr3 ∧ -1022 ≤ exp ∧ exp ≤ 90001 ∧ 0 ≤ u ∧ u ≤ 18446744073709551615))
          case first => as_aux_lemma =>
            by_cases hu : u = 9007199254740992
            · have d1 : (u == 9007199254740992) = true := beq_iff_eq.mpr hu
              clear hu
              by_cases hov : 2047 ≤ exp + 1 + 1023
              · have d2 : decide (2047 ≤ exp + 1 + 1023) = true := decide_eq_true hov
                have d3 : decide (2047 ≤ exp + 1024) = true := decide_eq_true (by omega)
                have cng := HM4.out.dc.cng
                clear hov
                go_wp2_with fail
                go_quiet (fail)
                go_wp2_with fail
                go_step3
                simp only [Exit.then, Exit.inBlock]
                refine two_one hQ ?_
                clear hQ
                generalize hQ2 : ExitNone _ = Q2
                go_wp2_with fail
                repeat (go_quiet (fail); try go_wp2_with fail)
                refine wp_label ?_
                go_wp2_with fail
                repeat (go_quiet (fail); try go_wp2_with fail)
                all_goals
                  refine none_ret hQ2 ?_
                  go_ret2
                  exact ⟨_, _, rfl, by repeat (first | exact HM4.out.below | apply pw_below_drewN)⟩
              · have d2 : decide (2047 ≤ exp + 1 + 1023) = false := decide_eq_false hov
                have d3 : decide (2047 ≤ exp + 1024) = false := decide_eq_false (by omega)
                clear hov
                go_wp2_with fail
                go_quiet (fail)
                go_wp2_with fail
                go_meet
                case rel => exact ⟨_, _, rfl, rfl, ⟨by first | exact HM4.out | exact ⟨HM4.out.dc.drewN _, HM4.out.n1, HM4.out.n8, HM4.out.digs, HM4.out.top, pw_below_drewN HM4.out.below _⟩, by omega, by omega, by omega, by omega⟩⟩
            · have d1 : (u == 9007199254740992) = false := beq_eq_false_iff_ne.mpr hu
              clear hu
              go_wp2
              go_meet
              case rel => exact ⟨exp, u, rfl, rfl, ⟨HM4.out, p1, by omega, u0, u1⟩⟩
          case rest => as_aux_lemma =>
            clear u0 u1 HM4 i0 i1 i2
            clear p1 p2
            obtain ⟨exp, u, rfl, rfl, HR⟩ := hcut
            have p1 : -1022 ≤ exp := HR.out.2.1
            have p2 : exp ≤ 90001 := HR.out.2.2.1
            have u0 : 0 ≤ u := HR.out.2.2.2.1
            have u1 : u ≤ 18446744073709551615 := HR.out.2.2.2.2
            have hi := (HT.out.2.2.below HR.out.1.below).out
            have i0 := hi.2.1
            have i1 := hi.2.2.1
            have i2 := hi.2.2.2
            have cng := HR.out.1.dc.cng
            clear hi
            cases hb : (bits BinOp.and IntKind.u64 u 4503599627370496 == 0)
            · go_wp2_with fail
              go_step3
              simp only [Exit.then, Exit.inBlock]
              refine two_zero hQ ?_
              clear hQ
              generalize hQ2 : ExitNone _ = Q2
              go_wp2_with fail
              repeat (go_quiet (fail); try go_wp2_with fail)
              all_goals
                refine none_ret hQ2 ?_
                go_ret2
                exact ⟨_, _, rfl, by repeat (first | exact HR.out.1.below | apply pw_below_drewN)⟩
            · go_wp2_with fail
              go_step3
              simp only [Exit.then, Exit.inBlock]
              refine two_zero hQ ?_
              clear hQ
              generalize hQ2 : ExitNone _ = Q2
              go_wp2_with fail
              repeat (go_quiet (fail); try go_wp2_with fail)
              all_goals
                refine none_ret hQ2 ?_
                go_ret2
                exact ⟨_, _, rfl, by repeat (first | exact HR.out.1.below | apply pw_below_drewN)⟩
end Go.Proofs.YtldfejbmdonaoaaDoor.Df