/- Joined by a program of mine from texts of this claim: Va. -/
import Derived.Test.YtldfejbmdonaoaaGreatDoorZ35
namespace Go.Proofs.YtldfejbmdonaoaaGreatDoor.Va
open Go.RowKit YtldfejbmdonaoaaGreatDoorW.PrintWords YtldfejbmdonaoaaGreatDoorW.PrintLast YtldfejbmdonaoaaGreatDoorW.PrintMore Tw Tf Tp Te Tg Ti Vp Vt Vw Sp Vs
set_option linter.unusedVariables false
set_option linter.unusedSimpArgs false
def OutAt (s : ByteArray) (i x : Int) (b : Bool) : Prop := (i + 1 ≤ x ∧ x ≤ (s.size : Int) ∧ runEnd ws s x = runEnd ws s (i + 1)) ∨ ((s.size : Int) < x ∧ x ≤ (s.size : Int) + 1 ∧ b = true)
set_option maxRecDepth 100000 in
set_option maxHeartbeats 8000000 in
theorem array_walk (s : ByteArray) (hs : (s.size : Int) ≤ 65536) (k : Nat) (ih : ∀ m, m < k → AnyOk s m) : ListOk s 68 93 false k := by
  intro A0 c0 w i K I P s' j b hr0 hc0 h0 h1 hk h
  obtain ⟨k, rfl⟩ : ∃ k', k = k' + 1 := ⟨k - 1, by omega⟩
  have hL := t_listF hs h0 (by decide) h1 (by omega) h
  have hmr := runEnd_le (p := ws) (s := s) (i := i + 1) h1
  have HR0 := Aside0.mk hr0
  have HC0 := Aside0.mk hc0
  have HT := Aside0.mk hL
  have HK := Aside0.mk hk
  have HI := Aside0.mk (And.intro h0 (And.intro h1 hmr))
  have HS := Aside0.mk hs
  clear hr0 hc0 h hk h0 h1 hs hL hmr
  go_enter Tryz.func68, Tryz.ntmps68
  go_wp2
  go_loopg [1] (((s.size : Int) + 2 - (i + 1)).toNat) (fun kq v1 w' => ∃ (x : Int), v1 = .int .i64 x ∧ Aside0 (OutAt s i x b) ∧ Aside0 (kq = ((s.size : Int) + 2 - x).toNat) ∧ Drawn0 w w')
  case atStart => exact ⟨i + 1, rfl, ⟨.inl ⟨Int.le_refl _, HI.out.2.1, rfl⟩⟩, ⟨rfl⟩, Drawn0.refl _⟩
  case round =>
    obtain ⟨x, rfl, HX, HQ, ⟨m1, rfl⟩⟩ := hrel
    by_cases hlt : x < (s.size : Int)
    · have hX : i + 1 ≤ x ∧ x ≤ (s.size : Int) ∧ runEnd ws s x = runEnd ws s (i + 1) := by
        rcases HX.out with h | h
        · exact h
        · omega
      have h0 : 0 ≤ x := by have := HI.out; omega
      have c3b0 : decide (x < ((bytesOf s).length : Int)) = true := decide_eq_true (by rw [len_eq]; exact hlt)
      have c3b1 : decide (0 ≤ x) = true := decide_eq_true h0
      have q1 : (x < ((bytesOf s).length : Int)) = True := eq_true (by rw [len_eq]; exact hlt)
      have q0 : (0 ≤ x) = True := eq_true h0
      have e1 : wrap64 (x + 1) = x + 1 := w64 (by have := HS.out; omega)
      have e2 : IntKind.i64.wrap (x + 1) = x + 1 := (i64_w _).trans e1
      obtain ⟨ad, rfl, hx⟩ := at_byte HR0.out h0 hlt
      by_cases hw : ws (bt s x) = true
      · have HX' : Aside0 (OutAt s i (x + 1) b) := ⟨.inl ⟨by omega, by omega, (runEnd_step hlt hw).symm.trans hX.2.2⟩⟩
        have HM : Aside0 (((s.size : Int) + 2 - (x + 1)).toNat < gk) := ⟨by have := HQ.out; omega⟩
        simp only [ws, Bool.or_eq_true, beq_iff_eq] at hw
        clear hlt h0 hX
        rcases hw with ((hc | hc) | hc) | hc <;> rw [hc] at hx <;> clear hc
        all_goals go_wp2
        all_goals go_roundg (((s.size : Int) + 2 - (x + 1)).toNat)
        all_goals first
          | exact HM.out
          | exact ⟨x + 1, rfl, HX', ⟨rfl⟩, by repeat (first | exact Drawn0.refl _ | apply Drawn0.step)⟩
      · have hm : runEnd ws s (i + 1) = x := by rw [← hX.2.2]; exact runEnd_stop (.inr (by simpa using hw))
        by_cases c93 : bt s x = 93
        · have hP : b = false ∧ j = x + 1 := by
            rcases HT.out with h | h
            · rw [hm] at h; exact h.2
            · rw [hm] at h; exact absurd c93 h.1
          have HP := Aside0.mk hP
          rw [c93] at hx
          clear hlt h0 hX hw hm hP c93
          go_wp2
          go_ret2
          exact ⟨x + 1, (by rw [HP.out.1]; rfl), fun _ => HP.out.2.symm, by repeat (first | exact Drawn0.refl _ | apply Drawn0.step)⟩
        · have hO : loopF k s x false 93 false [] [] true = some (K, I, P, s', j, b) := by
            rcases HT.out with h | h
            · rw [hm] at h; exact absurd h.1 c93
            · rw [hm] at h; exact h.2
          have hws : ¬ (ws (bt s x) = true) := hw
          simp only [ws, Bool.or_eq_true, beq_iff_eq, not_or] at hws
          obtain ⟨⟨⟨z32, z9⟩, z10⟩, z13⟩ := hws
          have f32 : (bt s x == 32) = false := beq_eq_false_iff_ne.mpr z32
          have f9 : (bt s x == 9) = false := beq_eq_false_iff_ne.mpr z9
          have f10 : (bt s x == 10) = false := beq_eq_false_iff_ne.mpr z10
          have f13 : (bt s x == 13) = false := beq_eq_false_iff_ne.mpr z13
          have f93 : (bt s x == 93) = false := beq_eq_false_iff_ne.mpr c93
          have HO : Aside0 (∃ kq' K0 I0 P0, kq' ≤ k ∧ loopF kq' s (runEnd ws s x) false 93 false K0 I0 P0 = some (K, I, P, s', j, b) ∧ (K0.length : Int) ≤ runEnd ws s x ∧ (I0.length : Int) ≤ runEnd ws s x ∧ 8 * ((s.size : Int) - runEnd ws s x) + 169 ≤ kq') := ⟨by
            have hx2 : runEnd ws s x = x := hX.2.2.trans hm
            rw [hx2]
            have := HK.out
            exact ⟨k, [], [], true, Nat.le_refl _, hO, by simp; omega, by simp; omega, by omega⟩⟩
          have HX0 : Aside0 (0 ≤ x ∧ x ≤ (s.size : Int)) := ⟨⟨h0, hX.2.1⟩⟩
          clear hO z32 z9 z10 z13 hlt h0 hX hw hm c93 HT HX
          go_wp2
          go_loopg [1] (((s.size : Int) - x).toNat) (fun kq v1 w' => ∃ (y : Int), v1 = .int .i64 y ∧ Aside0 (x ≤ y ∧ y ≤ (s.size : Int)) ∧ Aside0 (∃ kq' K0 I0 P0, kq' ≤ k ∧ loopF kq' s (runEnd ws s y) false 93 false K0 I0 P0 = some (K, I, P, s', j, b) ∧ (K0.length : Int) ≤ runEnd ws s y ∧ (I0.length : Int) ≤ runEnd ws s y ∧ 8 * ((s.size : Int) - runEnd ws s y) + 169 ≤ kq') ∧ Aside0 (kq = ((s.size : Int) - y).toNat) ∧ Drawn0 w w')
          case atStart => exact ⟨x, rfl, ⟨Int.le_refl _, HX0.out.2⟩, HO, ⟨rfl⟩, by repeat (first | exact Drawn0.refl _ | apply Drawn0.step)⟩
          case round =>
            clear hx f32 f9 f10 f13 f93 c3b0 q1 HO
            obtain ⟨y, rfl, HY, HL, HQ2, ⟨m2, rfl⟩⟩ := hrel
            have hy0 : 0 ≤ y := by have := HY.out; have := HX0.out; omega
            have hry := runEnd_le (p := ws) (s := s) (i := y) HY.out.2
            obtain ⟨kq', K0, I0, P0, g1, g2, g3, g4, g5⟩ := HL.out
            obtain ⟨k2, rfl⟩ : ∃ k', kq' = k' + 1 := ⟨kq' - 1, by omega⟩
            have hi := t_loopF HS.out (by omega) (by decide) hry.2 g3 g4 (by omega) g2
            replace hi : itemF k2 s (runEnd ws s y) false 93 false K0 I0 P0 = some (K, I, P, s', j, b) := by
              rcases hi with h | h
              · exact h.2
              · exact absurd h.1 (by decide)
            obtain ⟨k3, rfl⟩ : ∃ k', k2 = k' + 1 := ⟨k2 - 1, by omega⟩
            obtain ⟨T, j1, b1, hT, j2, j3, hC⟩ := t_itemF HS.out (by omega) (by decide) hry.2 (by omega) (by omega) (by omega) hi
            have HA := Aside0.mk (ih k3 (by omega) (some ad) c0 (w.drewN m2) y T s j1 b1 (Kd.C_drewN HR0.out m2) HC0.out hy0 HY.out.2 (by omega) hT)
            have HCC := Aside0.mk hC
            have HTT := Aside0.mk hT
            have HG := Aside0.mk (And.intro g1 (And.intro g3 (And.intro g4 (And.intro g5 (And.intro hry (And.intro j2 j3))))))
            clear hi g1 g2 g3 g4 g5 hC hT HL hry
            by_cases hlt : y < (s.size : Int)
            · have c3b0 : decide (y < ((bytesOf s).length : Int)) = true := decide_eq_true (by rw [len_eq]; exact hlt)
              have q1 : (y < ((bytesOf s).length : Int)) = True := eq_true (by rw [len_eq]; exact hlt)
              clear hlt hy0 j2 j3
              go_wp2_with fail
              refine HA.out.mono ?_
              rintro e w2 ⟨r1, rfl, hj, ⟨m3, rfl⟩⟩
              have HJ := Aside0.mk hj
              clear hj HA
              cases b1 with
              | true =>
                have hb : b = true := by
                  rcases HCC.out with h | h
                  · exact h.2
                  · exact absurd h.1 (by decide)
                subst hb
                go_wp2_with fail
                go_ret2
                exact ⟨r1, rfl, fun h => absurd h (by decide), by repeat (first | exact Drawn0.refl _ | apply Drawn0.step)⟩
              | false =>
                have hr1 : r1 = j1 := HJ.out rfl
                subst hr1
                have hg := HG.out
                have hx9 := HX0.out
                have hs9 := HS.out
                have hz := runEnd_le (p := ws) (s := s) (i := r1) hg.2.2.2.2.2.2
                obtain ⟨kc, hkc⟩ := comma_is (s := s) (by omega) 93 (by decide) _ r1 (by omega) (Nat.lt_succ_self _)
                have hCC : (bt s (runEnd ws s r1) = 44 ∧ loopF k3 s (runEnd ws s (runEnd ws s r1 + 1)) false 93 false K0 (I0 ++ [T]) (P0 && T.pairs) = some (K, I, P, s', j, b)) ∨ (bt s (runEnd ws s r1) ≠ 44 ∧ bt s (runEnd ws s r1) = 93 ∧ b = false ∧ j = runEnd ws s r1 + 1) ∨ (bt s (runEnd ws s r1) ≠ 44 ∧ bt s (runEnd ws s r1) ≠ 93 ∧ b = true) := by
                  rcases HCC.out with h | h
                  · exact absurd h.1 (by decide)
                  · exact h.2
                revert hkc hCC hz
                generalize runEnd ws s r1 = z
                intro hz hkc hCC
                have HZ := Aside0.mk hz
                have HV := Aside0.mk hkc
                have HD := Aside0.mk hCC
                clear hz hkc hCC hg hx9 hs9 HCC HJ
                have call := fun w' (h : Kd.C (Kd.int .u8) w' (some ad) (bytesOf s).length (bytesOf s)) => gjson_validcomma.calls kc (some ad) c0 (bytesOf s) r1 93 z (decide (bt s z = 44) || decide (bt s z = 93)) w' h HC0.out HV.out
                have HCall := Aside0.mk call
                clear call
                by_cases d44 : bt s z = 44
                · have hzl := lt_of_bt (s := s) (i := z) (by omega)
                  have hz0 : 0 ≤ z := by have := HZ.out; have := HG.out; have := HX0.out; have := HY.out; omega
                  have hxz := Kd.at_int (Kd.C_drewN HR0.out m2) z hz0 (by rw [len_eq]; exact hzl)
                  have s0 : (0 ≤ z) = True := eq_true hz0
                  have s1 : (z < ((bytesOf s).length : Int)) = True := eq_true (by rw [len_eq]; exact hzl)
                  have s2 : (decide (bt s z = 44) || decide (bt s z = 93)) = true := by simp [d44]
                  obtain ⟨ad2, ea, hxz⟩ := at_byte HR0.out hz0 hzl
                  obtain rfl : ad = ad2 := by injection ea
                  have t1 : wrap64 (z + 1) = z + 1 := w64 (by have := HS.out; omega)
                  have t2 : IntKind.i64.wrap (z + 1) = z + 1 := (i64_w _).trans t1
                  rw [d44] at hxz
                  have HN : Aside0 (∃ kq' K0 I0 P0, kq' ≤ k ∧ loopF kq' s (runEnd ws s (z + 1)) false 93 false K0 I0 P0 = some (K, I, P, s', j, b) ∧ (K0.length : Int) ≤ runEnd ws s (z + 1) ∧ (I0.length : Int) ≤ runEnd ws s (z + 1) ∧ 8 * ((s.size : Int) - runEnd ws s (z + 1)) + 169 ≤ kq') := ⟨by
                    have hg := HG.out
                    have hz := HZ.out
                    have hn := runEnd_le (p := ws) (s := s) (i := z + 1) (by omega)
                    rcases HD.out with h | h | h
                    · exact ⟨k3, K0, I0 ++ [T], P0 && T.pairs, by omega, h.2, by omega, by rw [List.length_append]; simp; omega, by omega⟩
                    · exact absurd d44 h.1
                    · exact absurd d44 h.1⟩
                  have HM2 : Aside0 (x ≤ z + 1 ∧ z + 1 ≤ (s.size : Int) ∧ ((s.size : Int) - (z + 1)).toNat < ((s.size : Int) - y).toNat) := ⟨by have := HZ.out; have := HG.out; have := HY.out; omega⟩
                  rw [s2] at HCall
                  clear d44 hzl hz0 ea
                  go_wp2_with fail
                  refine (HCall.out _ (Kd.C_drewN HR0.out _)).mono ?_
                  rintro e w3 ⟨rfl, ⟨m4, rfl⟩⟩
                  go_wp2_with fail
                  go_roundg (((s.size : Int) - (z + 1)).toNat)
                  case measure => have := HQ2.out; have := HM2.out; omega
                  case rel => exact ⟨z + 1, rfl, ⟨HM2.out.1, HM2.out.2.1⟩, HN, ⟨rfl⟩, by repeat (first | exact Drawn0.refl _ | apply Drawn0.step)⟩
                · by_cases d93 : bt s z = 93
                  · have hzl := lt_of_bt (s := s) (i := z) (by omega)
                    have hz0 : 0 ≤ z := by have := HZ.out; have := HG.out; have := HX0.out; have := HY.out; omega
                    have s0 : (0 ≤ z) = True := eq_true hz0
                    have s1 : (z < ((bytesOf s).length : Int)) = True := eq_true (by rw [len_eq]; exact hzl)
                    have s2 : (decide (bt s z = 44) || decide (bt s z = 93)) = true := by simp [d93]
                    obtain ⟨ad2, ea, hxz⟩ := at_byte HR0.out hz0 hzl
                    obtain rfl : ad = ad2 := by injection ea
                    have t1 : wrap64 (z + 1) = z + 1 := w64 (by have := HS.out; omega)
                    have t2 : IntKind.i64.wrap (z + 1) = z + 1 := (i64_w _).trans t1
                    have hP : b = false ∧ j = z + 1 := by
                      rcases HD.out with h | h | h
                      · exact absurd h.1 d44
                      · exact h.2.2
                      · exact absurd d93 h.2.1
                    have HP := Aside0.mk hP
                    rw [d93] at hxz
                    rw [s2] at HCall
                    clear d44 d93 hzl hz0 ea hP
                    go_wp2_with fail
                    refine (HCall.out _ (Kd.C_drewN HR0.out _)).mono ?_
                    rintro e w3 ⟨rfl, ⟨m4, rfl⟩⟩
                    go_wp2_with fail
                    go_ret2
                    exact ⟨z + 1, (by rw [HP.out.1]; rfl), fun _ => HP.out.2.symm, by repeat (first | exact Drawn0.refl _ | apply Drawn0.step)⟩
                  · have s2 : (decide (bt s z = 44) || decide (bt s z = 93)) = false := by simp [d44, d93]
                    have hb : b = true := by
                      rcases HD.out with h | h | h
                      · exact absurd h.1 d44
                      · exact absurd h.2.1 d93
                      · exact h.2.2
                    subst hb
                    rw [s2] at HCall
                    clear d44 d93
                    go_wp2_with fail
                    refine (HCall.out _ (Kd.C_drewN HR0.out _)).mono ?_
                    rintro e w3 ⟨rfl, ⟨m4, rfl⟩⟩
                    go_wp2_with fail
                    go_ret2
                    exact ⟨z, rfl, fun h => absurd h (by decide), by repeat (first | exact Drawn0.refl _ | apply Drawn0.step)⟩
            · have hb : b = true := by
                have hyy := HY.out
                have hg := HG.out
                have hz : y = (s.size : Int) := by omega
                have hr : runEnd ws s y = y := runEnd_stop (.inl (by omega))
                have hbt : bt s y = 0 := bt_out (by omega)
                rcases HCC.out with h | h
                · exact h.2
                · have hT2 := HTT.out
                  rw [hr] at hT2 hg
                  obtain ⟨k4, rfl⟩ : ∃ k', k3 = k' + 1 := ⟨k3 - 1, by omega⟩
                  have := t_none HS.out hy0 hyy.2 (by omega) hT2 (by rw [hbt]; decide) (by rw [hbt]; decide) (by rw [hbt]; decide)
                  rw [h.1] at this
                  exact absurd this (by decide)
              subst hb
              have c3b0 : decide (y < ((bytesOf s).length : Int)) = false := decide_eq_false (by rw [len_eq]; exact hlt)
              have t1 : wrap64 (y + 1) = y + 1 := w64 (by have := HS.out; have := HY.out; omega)
              have t2 : IntKind.i64.wrap (y + 1) = y + 1 := (i64_w _).trans t1
              have HN : Aside0 (OutAt s i (y + 1) true) := ⟨.inr ⟨by omega, by have := HY.out; omega, rfl⟩⟩
              have HM2 : Aside0 (((s.size : Int) + 2 - (y + 1)).toNat < ((s.size : Int) + 2 - x).toNat) := ⟨by have := HY.out; have := HX0.out; omega⟩
              clear hlt hy0 j2 j3 HCC HA
              go_wp2
              go_roundg (((s.size : Int) + 2 - (y + 1)).toNat)
              case measure => have := HQ.out; have := HM2.out; omega
              case rel => exact ⟨y + 1, rfl, HN, ⟨rfl⟩, by repeat (first | exact Drawn0.refl _ | apply Drawn0.step)⟩
    · have hb : b = true := by
        rcases HX.out with h | h
        · have hmr := HI.out.2.2
          have hr : runEnd ws s x = x := runEnd_stop (.inl (by omega))
          have hm : runEnd ws s (i + 1) = x := h.2.2.symm.trans hr
          have hbt : bt s x = 0 := bt_out (by omega)
          rcases HT.out with g | g
          · rw [hm, hbt] at g; exact absurd g.1 (by decide)
          · cases hbb : b with
            | true => rfl
            | false =>
              rw [hm, hbb] at g
              have hkk := HK.out
              have hi := loop_inv (e := 93) (K0 := []) (I0 := []) HS.out (by have := HI.out; omega) h.2.1 (by decide) (by simp; have := HI.out; omega) (by simp; have := HI.out; omega) (k := k - 1) (by omega) (by rw [show k - 1 + 1 = k by omega]; exact g.2)
              rcases hi with hi | hi
              · obtain ⟨T, j1, hT2, _⟩ := item_inv (e := 93) (K0 := []) (I0 := []) HS.out (by have := HI.out; omega) h.2.1 (by decide) (by simp; have := HI.out; omega) (by simp; have := HI.out; omega) (k := k - 2) (by omega) (by rw [show k - 2 + 1 = k - 1 by omega]; exact hi.2)
                have := t_none HS.out (by have := HI.out; omega) h.2.1 (k := k - 3) (by omega) (by rw [show k - 3 + 1 = k - 2 by omega]; exact hT2) (by rw [hbt]; decide) (by rw [hbt]; decide) (by rw [hbt]; decide)
                exact absurd this (by decide)
              · exact absurd hi.1 (by decide)
        · exact h.2.2
      subst hb
      have c3b0 : decide (x < ((bytesOf s).length : Int)) = false := decide_eq_false (by rw [len_eq]; exact hlt)
      clear HT
      go_wp2
      go_ret2
      exact ⟨_, rfl, fun h => absurd h (by decide), by repeat (first | exact Drawn0.refl _ | apply Drawn0.step)⟩
end Go.Proofs.YtldfejbmdonaoaaGreatDoor.Va