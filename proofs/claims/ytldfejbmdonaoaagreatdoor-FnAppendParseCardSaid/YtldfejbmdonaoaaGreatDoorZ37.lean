/- Joined by a program of mine from texts of this claim: Vo. -/
import Derived.Test.YtldfejbmdonaoaaGreatDoorZ36
import Derived.ScopeJumps
namespace Go.Proofs.YtldfejbmdonaoaaGreatDoor.Vo
open Go.RowKit YtldfejbmdonaoaaGreatDoorW.PrintWords YtldfejbmdonaoaaGreatDoorW.PrintLast YtldfejbmdonaoaaGreatDoorW.PrintMore Tw Tf Tp Te Tg Ti Vp Vt Vw Va Sp Vs
set_option linter.unusedVariables false
set_option linter.unusedSimpArgs false
def KeyAt (s : ByteArray) (k : Nat) (ad : Addr) (c0 : Nat) (w : World) (x : Int) (K : List ByteArray) (I : List JT) (P : Bool) (s' : ByteArray) (j : Int) (b : Bool) (a' : Act) (w' : World) : Prop :=
  Drawn0 w w' ∧ ∃ (y : Int) (v2 v3 v4 v5 v6 v7 v8 v9 v10 v11 v12 v13 v14 v15 v16 v17 v18 v19 v20 v21 v22 v23 v24 v25 v26 v27 v28 v29 v30 v31 v32 v33 v34 v35 v36 v37 v38 v39 v40 v41 v42 v43 v44 v45 v46 v47 v48 v49 v50 v51 v52 v53 v54 v55 v56 v57 v58 v59 v60 v61 v62 v63 v64 v65 v66 v67 v68 v69 v70 v71 v72 v73 v74 v75 v76 v77 v78 v79 v80 v81 v82 v83 v84 v85 v86 v87 v88 v89 v90 v91 v92 v93 : Value), Aside0 (x ≤ y ∧ y < (s.size : Int) ∧ bt s y = 34) ∧
    Aside0 (∃ kq K0 I0 P0, kq ≤ k ∧ loopF kq s y false 125 true K0 I0 P0 = some (K, I, P, s', j, b) ∧ (K0.length : Int) ≤ y ∧ (I0.length : Int) ≤ y ∧ 8 * ((s.size : Int) - y) + 169 ≤ kq) ∧
    a' = { tmps := #[.slice (some ad) (bytesOf s).length c0, .int .i64 y, v2, v3, v4, v5, v6, v7, v8, v9, v10, v11, v12, v13, v14, v15, v16, v17, v18, v19, v20, v21, v22, v23, v24, v25, v26, v27, v28, v29, v30, v31, v32, v33, v34, v35, v36, v37, v38, v39, v40, v41, v42, v43, v44, v45, v46, v47, v48, v49, v50, v51, v52, v53, v54, v55, v56, v57, v58, v59, v60, v61, v62, v63, v64, v65, v66, v67, v68, v69, v70, v71, v72, v73, v74, v75, v76, v77, v78, v79, v80, v81, v82, v83, v84, v85, v86, v87, v88, v89, v90, v91, v92, v93], defers := [] }
def keyLeft (s : ByteArray) (a' : Act) (_ : World) : Nat := match a'.tmps.getD 1 (Value.bool false) with | Value.int IntKind.i64 y => ((s.size : Int) - y).toNat | _ => 0
theorem wp_scope_label {P : Program} {a : Act} {w : World} {Q : Exit → Act → World → Prop} {c : Code} (l : Nat) (J : Act → World → Prop) (μ : Act → World → Nat) (hJ : J a w)
    (pass : ∀ a w, J a w → c.wp P (Exit.jump l (fun a' w' => J a' w' ∧ μ a' w' < μ a w) Q) a w) : (Code.scope (.seq (.label l) c)).wp P Q a w := by
  refine wp_scope_jumps l J μ (rest := .seq .skip c) (by simp [findLabel]) (wp_seq (wp_label ?_)) fun a w h => wp_seq (wp_skip (pass a w h))
  exact Code.wp_mono (fun e a' w' h => by cases e <;> first | exact h | exact ⟨h.1, h.2.1⟩) (pass a w hJ)
set_option maxRecDepth 100000 in
set_option maxHeartbeats 8000000 in
theorem object_walk (s : ByteArray) (hs : (s.size : Int) ≤ 65536) (k : Nat) (ih : ∀ m, m < k → AnyOk s m) : ListOk s 67 125 true k := by
  intro A0 c0 w i K I P s' j b hr0 hc0 h0 h1 hk h
  obtain ⟨k, rfl⟩ : ∃ k', k = k' + 1 := ⟨k - 1, by omega⟩
  have hL := t_listF hs h0 (by decide) h1 (by omega) h
  have hmr := runEnd_le (p := ws) (s := s) (i := i + 1) h1
  have HR0 := Aside0.mk hr0
  have HC0 := Aside0.mk hc0
  have HT := Aside0.mk hL
  have HK := Aside0.mk hk
  have HI := Aside0.mk (And.intro h0 (And.intro h1 hmr))
  have HS := Aside0.mk hs
  clear hr0 hc0 h hk h0 h1 hs hL hmr
  go_enter Tryz.func67, Tryz.ntmps67
  go_wp2
  go_loopg [1] (((s.size : Int) + 2 - (i + 1)).toNat) (fun kq v1 w' => ∃ (x : Int), v1 = .int .i64 x ∧ Aside0 (OutAt s i x b) ∧ Aside0 (kq = ((s.size : Int) + 2 - x).toNat) ∧ Drawn0 w w')
  case atStart => exact ⟨i + 1, rfl, ⟨.inl ⟨Int.le_refl _, HI.out.2.1, rfl⟩⟩, ⟨rfl⟩, Drawn0.refl _⟩
  case round =>
    obtain ⟨x, rfl, HX, HQ, ⟨m1, rfl⟩⟩ := hrel
    by_cases hlt : x < (s.size : Int)
    · have hX : i + 1 ≤ x ∧ x ≤ (s.size : Int) ∧ runEnd ws s x = runEnd ws s (i + 1) := by
        rcases HX.out with h | h
        · exact h
        · omega
      have h0 : 0 ≤ x := by have := HI.out; omega
      have c3b0 : decide (x < ((bytesOf s).length : Int)) = true := decide_eq_true (by rw [len_eq]; exact hlt)
      have c3b1 : decide (0 ≤ x) = true := decide_eq_true h0
      have q1 : (x < ((bytesOf s).length : Int)) = True := eq_true (by rw [len_eq]; exact hlt)
      have q0 : (0 ≤ x) = True := eq_true h0
      have e1 : wrap64 (x + 1) = x + 1 := w64 (by have := HS.out; omega)
      have e2 : IntKind.i64.wrap (x + 1) = x + 1 := (i64_w _).trans e1
      obtain ⟨ad, rfl, hx⟩ := at_byte HR0.out h0 hlt
      by_cases hw : ws (bt s x) = true
      · have HX' : Aside0 (OutAt s i (x + 1) b) := ⟨.inl ⟨by omega, by omega, (runEnd_step hlt hw).symm.trans hX.2.2⟩⟩
        have HM : Aside0 (((s.size : Int) + 2 - (x + 1)).toNat < gk) := ⟨by have := HQ.out; omega⟩
        simp only [ws, Bool.or_eq_true, beq_iff_eq] at hw
        clear hlt h0 hX
        rcases hw with ((hc | hc) | hc) | hc <;> rw [hc] at hx <;> clear hc
        all_goals go_wp2
        all_goals go_roundg (((s.size : Int) + 2 - (x + 1)).toNat)
        all_goals first
          | exact HM.out
          | exact ⟨x + 1, rfl, HX', ⟨rfl⟩, by repeat (first | exact Drawn0.refl _ | apply Drawn0.step)⟩
      · have hm : runEnd ws s (i + 1) = x := by rw [← hX.2.2]; exact runEnd_stop (.inr (by simpa using hw))
        by_cases c125 : bt s x = 125
        · have hP : b = false ∧ j = x + 1 := by
            rcases HT.out with h | h
            · rw [hm] at h; exact h.2
            · rw [hm] at h; exact absurd c125 h.1
          have HP := Aside0.mk hP
          rw [c125] at hx
          clear hlt h0 hX hw hm hP c125
          go_wp2
          go_ret2
          exact ⟨x + 1, (by rw [HP.out.1]; rfl), fun _ => HP.out.2.symm, by repeat (first | exact Drawn0.refl _ | apply Drawn0.step)⟩
        · have hO : loopF k s x false 125 true [] [] true = some (K, I, P, s', j, b) := by
            rcases HT.out with h | h
            · rw [hm] at h; exact absurd h.1 c125
            · rw [hm] at h; exact h.2
          by_cases c34 : bt s x = 34
          · have HO := Aside0.mk hO
            have HX0 : Aside0 (0 ≤ x ∧ x < (s.size : Int) ∧ bt s x = 34 ∧ i + 1 ≤ x) := ⟨⟨h0, hlt, c34, hX.1⟩⟩
            rw [c34] at hx
            clear hO hlt h0 hX hw hm c125 c34 HT HX
            go_wp2
            refine wp_scope_label 0 (KeyAt s k ad c0 w x K I P s' j b) (keyLeft s) ?_ ?_
            · exact ⟨by repeat (first | exact Drawn0.refl _ | apply Drawn0.step), x, _, _, _, _, _, _, _, _, _, _, _, _, _, _, _, _, _, _, _, _, _, _, _, _, _, _, _, _, _, _, _, _, _, _, _, _, _, _, _, _, _, _, _, _, _, _, _, _, _, _, _, _, _, _, _, _, _, _, _, _, _, _, _, _, _, _, _, _, _, _, _, _, _, _, _, _, _, _, _, _, _, _, _, _, _, _, _, _, _, _, _, _, ⟨⟨Int.le_refl _, HX0.out.2.1, HX0.out.2.2.1⟩⟩, ⟨⟨k, [], [], true, Nat.le_refl _, HO.out, by have := HX0.out; simp; omega, by have := HX0.out; simp; omega, by have := HK.out; have := HX0.out; have := HS.out; omega⟩⟩, rfl⟩
            · clear hx c3b0 c3b1 q1 q0 e1 e2 HO
              rintro a' w' ⟨⟨m0, rfl⟩, hinv⟩
              obtain ⟨y, hinv⟩ := hinv
              obtain ⟨v2, hinv⟩ := hinv
              obtain ⟨v3, hinv⟩ := hinv
              obtain ⟨v4, hinv⟩ := hinv
              obtain ⟨v5, hinv⟩ := hinv
              obtain ⟨v6, hinv⟩ := hinv
              obtain ⟨v7, hinv⟩ := hinv
              obtain ⟨v8, hinv⟩ := hinv
              obtain ⟨v9, hinv⟩ := hinv
              obtain ⟨v10, hinv⟩ := hinv
              obtain ⟨v11, hinv⟩ := hinv
              obtain ⟨v12, hinv⟩ := hinv
              obtain ⟨v13, hinv⟩ := hinv
              obtain ⟨v14, hinv⟩ := hinv
              obtain ⟨v15, hinv⟩ := hinv
              obtain ⟨v16, hinv⟩ := hinv
              obtain ⟨v17, hinv⟩ := hinv
              obtain ⟨v18, hinv⟩ := hinv
              obtain ⟨v19, hinv⟩ := hinv
              obtain ⟨v20, hinv⟩ := hinv
              obtain ⟨v21, hinv⟩ := hinv
              obtain ⟨v22, hinv⟩ := hinv
              obtain ⟨v23, hinv⟩ := hinv
              obtain ⟨v24, hinv⟩ := hinv
              obtain ⟨v25, hinv⟩ := hinv
              obtain ⟨v26, hinv⟩ := hinv
              obtain ⟨v27, hinv⟩ := hinv
              obtain ⟨v28, hinv⟩ := hinv
              obtain ⟨v29, hinv⟩ := hinv
              obtain ⟨v30, hinv⟩ := hinv
              obtain ⟨v31, hinv⟩ := hinv
              obtain ⟨v32, hinv⟩ := hinv
              obtain ⟨v33, hinv⟩ := hinv
              obtain ⟨v34, hinv⟩ := hinv
              obtain ⟨v35, hinv⟩ := hinv
              obtain ⟨v36, hinv⟩ := hinv
              obtain ⟨v37, hinv⟩ := hinv
              obtain ⟨v38, hinv⟩ := hinv
              obtain ⟨v39, hinv⟩ := hinv
              obtain ⟨v40, hinv⟩ := hinv
              obtain ⟨v41, hinv⟩ := hinv
              obtain ⟨v42, hinv⟩ := hinv
              obtain ⟨v43, hinv⟩ := hinv
              obtain ⟨v44, hinv⟩ := hinv
              obtain ⟨v45, hinv⟩ := hinv
              obtain ⟨v46, hinv⟩ := hinv
              obtain ⟨v47, hinv⟩ := hinv
              obtain ⟨v48, hinv⟩ := hinv
              obtain ⟨v49, hinv⟩ := hinv
              obtain ⟨v50, hinv⟩ := hinv
              obtain ⟨v51, hinv⟩ := hinv
              obtain ⟨v52, hinv⟩ := hinv
              obtain ⟨v53, hinv⟩ := hinv
              obtain ⟨v54, hinv⟩ := hinv
              obtain ⟨v55, hinv⟩ := hinv
              obtain ⟨v56, hinv⟩ := hinv
              obtain ⟨v57, hinv⟩ := hinv
              obtain ⟨v58, hinv⟩ := hinv
              obtain ⟨v59, hinv⟩ := hinv
              obtain ⟨v60, hinv⟩ := hinv
              obtain ⟨v61, hinv⟩ := hinv
              obtain ⟨v62, hinv⟩ := hinv
              obtain ⟨v63, hinv⟩ := hinv
              obtain ⟨v64, hinv⟩ := hinv
              obtain ⟨v65, hinv⟩ := hinv
              obtain ⟨v66, hinv⟩ := hinv
              obtain ⟨v67, hinv⟩ := hinv
              obtain ⟨v68, hinv⟩ := hinv
              obtain ⟨v69, hinv⟩ := hinv
              obtain ⟨v70, hinv⟩ := hinv
              obtain ⟨v71, hinv⟩ := hinv
              obtain ⟨v72, hinv⟩ := hinv
              obtain ⟨v73, hinv⟩ := hinv
              obtain ⟨v74, hinv⟩ := hinv
              obtain ⟨v75, hinv⟩ := hinv
              obtain ⟨v76, hinv⟩ := hinv
              obtain ⟨v77, hinv⟩ := hinv
              obtain ⟨v78, hinv⟩ := hinv
              obtain ⟨v79, hinv⟩ := hinv
              obtain ⟨v80, hinv⟩ := hinv
              obtain ⟨v81, hinv⟩ := hinv
              obtain ⟨v82, hinv⟩ := hinv
              obtain ⟨v83, hinv⟩ := hinv
              obtain ⟨v84, hinv⟩ := hinv
              obtain ⟨v85, hinv⟩ := hinv
              obtain ⟨v86, hinv⟩ := hinv
              obtain ⟨v87, hinv⟩ := hinv
              obtain ⟨v88, hinv⟩ := hinv
              obtain ⟨v89, hinv⟩ := hinv
              obtain ⟨v90, hinv⟩ := hinv
              obtain ⟨v91, hinv⟩ := hinv
              obtain ⟨v92, hinv⟩ := hinv
              obtain ⟨v93, hinv⟩ := hinv
              obtain ⟨HY, HL, ha⟩ := hinv
              subst ha
              have hy0 : 0 ≤ y := by have := HY.out; have := HX0.out; omega
              have hyl : y < (s.size : Int) := HY.out.2.1
              obtain ⟨kq, K0, I0, P0, g1, g2, g3, g4, g5⟩ := HL.out
              obtain ⟨k2, rfl⟩ : ∃ k', kq = k' + 1 := ⟨kq - 1, by omega⟩
              have hi := t_loopF HS.out hy0 (by decide) (by omega) g3 g4 (by omega) g2
              replace hi : (b = true ∧ (strR s (y + 1) = none ∨ ∃ l p j1, strR s (y + 1) = some (l, p, j1) ∧ bt s (runEnd ws s j1) ≠ 58)) ∨ (∃ l p j1, strR s (y + 1) = some (l, p, j1) ∧ bt s (runEnd ws s j1) = 58 ∧ itemF k2 s (runEnd ws s (runEnd ws s j1 + 1)) false 125 true (K0 ++ [strOfNums l]) I0 (P0 && p) = some (K, I, P, s', j, b)) := by
                rcases hi with h | ⟨_, ⟨hb, h⟩ | ⟨_, h⟩⟩
                · exact absurd h.1 (by decide)
                · rcases h with h | h
                  · exact absurd HY.out.2.2 h
                  · exact .inl ⟨hb, h⟩
                · exact .inr h
              obtain ⟨r1, ok, ⟨ks, hV⟩, hM⟩ := string_is (s := s) (by have := HS.out; omega) _ (y + 1) (by omega) (by omega) (Nat.lt_succ_self _)
              replace hM : match strR s (y + 1) with | some (_, _, j) => ok = true ∧ r1 = j | none => ok = false := by
                unfold strR; exact hM
              have e1 : wrap64 (y + 1) = y + 1 := w64 (by have := HS.out; omega)
              have e2 : IntKind.i64.wrap (y + 1) = y + 1 := (i64_w _).trans e1
              have HG := Aside0.mk (And.intro g1 (And.intro g3 (And.intro g4 (And.intro g5 (And.intro hy0 hyl)))))
              have HV := Aside0.mk hV
              cases ok with
              | false =>
                have hb : b = true := by
                  rcases hi with h | ⟨l, p, j1, h, _⟩
                  · exact h.1
                  · rw [h] at hM; exact absurd hM.1 (by decide)
                subst hb
                clear hi hM hV g1 g2 g3 g4 g5 hy0 hyl HL
                go_wp2_with fail
                refine (gjson_validstring.calls ks (some ad) c0 (bytesOf s) (y + 1) r1 false _ (Kd.C_drewN HR0.out _) HC0.out HV.out).mono ?_
                rintro e w2 ⟨rfl, ⟨m2, rfl⟩⟩
                go_wp2_with fail
                simp only [Exit.jump]
                go_ret2
                exact ⟨r1, rfl, fun h => absurd h (by decide), by repeat (first | exact Drawn0.refl _ | apply Drawn0.step)⟩
              | true =>
                have hS : ∃ l p, strR s (y + 1) = some (l, p, r1) := by
                  revert hM
                  cases hR : strR s (y + 1) with
                  | none => intro h; exact absurd (show true = false from h) (by decide)
                  | some r => obtain ⟨l, p, j1⟩ := r; intro h; obtain ⟨_, rfl⟩ := h; exact ⟨l, p, rfl⟩
                obtain ⟨l, p, hS⟩ := hS
                have hj := strR_le _ _ hS
                replace hi : (b = true ∧ bt s (runEnd ws s r1) ≠ 58) ∨ (bt s (runEnd ws s r1) = 58 ∧ itemF k2 s (runEnd ws s (runEnd ws s r1 + 1)) false 125 true (K0 ++ [strOfNums l]) I0 (P0 && p) = some (K, I, P, s', j, b)) := by
                  rw [hS] at hi
                  rcases hi with ⟨hb, h | ⟨l', p', j1, h, h2⟩⟩ | ⟨l', p', j1, h, h2, h3⟩
                  · exact absurd h (by simp)
                  · simp only [Option.some.injEq, Prod.mk.injEq] at h
                    obtain ⟨rfl, rfl, rfl⟩ := h
                    exact .inl ⟨hb, h2⟩
                  · simp only [Option.some.injEq, Prod.mk.injEq] at h
                    obtain ⟨rfl, rfl, rfl⟩ := h
                    exact .inr ⟨h2, h3⟩
                have hz := runEnd_le (p := ws) (s := s) (i := r1) hj.2
                obtain ⟨kc, hkc⟩ := colon_is (s := s) (by have := HS.out; omega) _ r1 (by omega) (Nat.lt_succ_self _)
                have HJ : Aside0 (y + 1 + 1 ≤ r1 ∧ r1 ≤ (s.size : Int)) := ⟨hj⟩
                revert hkc hi hz
                generalize runEnd ws s r1 = z
                intro hi hz hkc
                have HZ := Aside0.mk hz
                have HVC := Aside0.mk hkc
                have HIt := Aside0.mk hi
                clear hi hM hV g1 g2 g3 g4 g5 hy0 hyl HL hS hj hkc hz
                go_wp2_with fail
                refine (gjson_validstring.calls ks (some ad) c0 (bytesOf s) (y + 1) r1 true _ (Kd.C_drewN HR0.out _) HC0.out HV.out).mono ?_
                rintro e w2 ⟨rfl, ⟨m2, rfl⟩⟩
                clear HV
                by_cases d58 : bt s z = 58
                · rw [if_pos d58] at HVC
                  have hit : itemF k2 s (runEnd ws s (z + 1)) false 125 true (K0 ++ [strOfNums l]) I0 (P0 && p) = some (K, I, P, s', j, b) := by
                    rcases HIt.out with h | h
                    · exact absurd d58 h.2
                    · exact h.2
                  have hg := HG.out
                  have hz := HZ.out
                  have hjj := HJ.out
                  have hzl := lt_of_bt (s := s) (i := z) (by omega)
                  have hry := runEnd_le (p := ws) (s := s) (i := z + 1) (by omega)
                  obtain ⟨k3, rfl⟩ : ∃ k', k2 = k' + 1 := ⟨k2 - 1, by omega⟩
                  obtain ⟨T, j1, b1, hT, j2, j3, hC⟩ := t_itemF HS.out (by omega) (by decide) hry.2 (by rw [List.length_append]; simp; omega) (by omega) (by omega) hit
                  have HA := Aside0.mk (fun mm => ih k3 (by omega) (some ad) c0 (w.drewN mm) (z + 1) T s j1 b1 (Kd.C_drewN HR0.out _) HC0.out (by omega) (by omega) (by omega) hT)
                  have HCC := Aside0.mk hC
                  have HZ1 : Aside0 (y + 1 ≤ z ∧ z + 1 ≤ (s.size : Int) ∧ z + 1 ≤ j1 ∧ j1 ≤ (s.size : Int)) := ⟨by omega⟩
                  clear d58 hit hg hz hjj hzl hry hT hC j2 j3 HIt HZ HJ
                  go_wp2_with fail
                  refine (gjson_validcolon.calls kc (some ad) c0 (bytesOf s) r1 (z + 1) true _ (Kd.C_drewN HR0.out _) HC0.out HVC.out).mono ?_
                  rintro e w3 ⟨rfl, ⟨m3, rfl⟩⟩
                  clear HVC
                  go_wp2_with fail
                  refine (HA.out _).mono ?_
                  rintro e w4 ⟨r2, rfl, hj, ⟨m4, rfl⟩⟩
                  have HJ := Aside0.mk hj
                  clear hj HA
                  cases b1 with
                  | true =>
                    have hb : b = true := by
                      rcases HCC.out with h | h
                      · exact h.2
                      · exact absurd h.1 (by decide)
                    subst hb
                    clear HCC
                    go_wp2_with fail
                    simp only [Exit.jump]
                    go_ret2
                    exact ⟨r2, rfl, fun h => absurd h (by decide), by repeat (first | exact Drawn0.refl _ | apply Drawn0.step)⟩
                  | false =>
                    obtain rfl : r2 = j1 := HJ.out rfl
                    clear HJ
                    have hg := HG.out
                    have hs9 := HS.out
                    have hz1 := HZ1.out
                    have hz := runEnd_le (p := ws) (s := s) (i := r2) hz1.2.2.2
                    obtain ⟨km, hkm⟩ := comma_is (s := s) (by omega) 125 (by decide) _ r2 (by omega) (Nat.lt_succ_self _)
                    have hCC : (bt s (runEnd ws s r2) = 44 ∧ loopF k3 s (runEnd ws s (runEnd ws s r2 + 1)) false 125 true (K0 ++ [strOfNums l]) (I0 ++ [T]) (P0 && p && T.pairs) = some (K, I, P, s', j, b)) ∨ (bt s (runEnd ws s r2) ≠ 44 ∧ bt s (runEnd ws s r2) = 125 ∧ b = false ∧ j = runEnd ws s r2 + 1) ∨ (bt s (runEnd ws s r2) ≠ 44 ∧ bt s (runEnd ws s r2) ≠ 125 ∧ b = true) := by
                      rcases HCC.out with h | h
                      · exact absurd h.1 (by decide)
                      · exact h.2
                    revert hz hkm hCC
                    generalize runEnd ws s r2 = z2
                    intro hz hkm hCC
                    have HZ2 := Aside0.mk hz
                    have HV := Aside0.mk hkm
                    have HD := Aside0.mk hCC
                    clear hz hkm hCC hg hs9 hz1 HCC
                    have HCall := Aside0.mk (fun w' (h : Kd.C (Kd.int .u8) w' (some ad) (bytesOf s).length (bytesOf s)) => gjson_validcomma.calls km (some ad) c0 (bytesOf s) r2 125 z2 (decide (bt s z2 = 44) || decide (bt s z2 = 125)) w' h HC0.out HV.out)
                    clear HV
                    by_cases d44 : bt s z2 = 44
                    · have hzl := lt_of_bt (s := s) (i := z2) (by omega)
                      have hz0 : 0 ≤ z2 := by have := HZ2.out; have := HZ1.out; have := HG.out; omega
                      have s0 : (0 ≤ z2) = True := eq_true hz0
                      have s1 : (z2 < ((bytesOf s).length : Int)) = True := eq_true (by rw [len_eq]; exact hzl)
                      have s2 : (decide (bt s z2 = 44) || decide (bt s z2 = 125)) = true := by simp [d44]
                      obtain ⟨ad2, ea, hxz⟩ := at_byte HR0.out hz0 hzl
                      obtain rfl : ad = ad2 := by injection ea
                      have t1 : wrap64 (z2 + 1) = z2 + 1 := w64 (by have := HS.out; omega)
                      have t2 : IntKind.i64.wrap (z2 + 1) = z2 + 1 := (i64_w _).trans t1
                      rw [d44] at hxz
                      rw [s2] at HCall
                      have hL : loopF k3 s (runEnd ws s (z2 + 1)) false 125 true (K0 ++ [strOfNums l]) (I0 ++ [T]) (P0 && p && T.pairs) = some (K, I, P, s', j, b) := by
                        rcases HD.out with h | h | h
                        · exact h.2
                        · exact absurd d44 h.1
                        · exact absurd d44 h.1
                      have HL := Aside0.mk hL
                      have HZ3 : Aside0 (y + 1 ≤ z2 ∧ z2 + 1 ≤ (s.size : Int) ∧ 0 ≤ z2) := ⟨by have := HZ2.out; have := HZ1.out; have := HG.out; omega⟩
                      clear d44 hzl hz0 ea hL HD HZ2
                      go_wp2_with fail
                      refine (HCall.out _ (Kd.C_drewN HR0.out _)).mono ?_
                      rintro e w5 ⟨rfl, ⟨m5, rfl⟩⟩
                      clear HCall
                      go_wp2_with fail
                      clear hxz s0 s1 s2 t1 t2
                      go_loopg [1] (((s.size : Int) - (z2 + 1)).toNat) (fun kq v1 w' => ∃ (x2 : Int), v1 = .int .i64 x2 ∧ Aside0 (z2 + 1 ≤ x2 ∧ x2 ≤ (s.size : Int) ∧ runEnd ws s x2 = runEnd ws s (z2 + 1)) ∧ Aside0 (kq = ((s.size : Int) - x2).toNat) ∧ Drawn0 w w')
                      case atStart => exact ⟨z2 + 1, rfl, ⟨Int.le_refl _, HZ3.out.2.1, rfl⟩, ⟨rfl⟩, by repeat (first | exact Drawn0.refl _ | apply Drawn0.step)⟩
                      case round =>
                        obtain ⟨x2, rfl, HX2, HQ2, ⟨m6, rfl⟩⟩ := hrel
                        by_cases hlt : x2 < (s.size : Int)
                        · have h0 : 0 ≤ x2 := by have := HX2.out; have := HZ3.out; omega
                          have c3b0 : decide (x2 < ((bytesOf s).length : Int)) = true := decide_eq_true (by rw [len_eq]; exact hlt)
                          have c3b1 : decide (0 ≤ x2) = true := decide_eq_true h0
                          have q1 : (x2 < ((bytesOf s).length : Int)) = True := eq_true (by rw [len_eq]; exact hlt)
                          have q0 : (0 ≤ x2) = True := eq_true h0
                          have e1 : wrap64 (x2 + 1) = x2 + 1 := w64 (by have := HS.out; omega)
                          have e2 : IntKind.i64.wrap (x2 + 1) = x2 + 1 := (i64_w _).trans e1
                          obtain ⟨ad2, ea, hx⟩ := at_byte HR0.out h0 hlt
                          obtain rfl : ad = ad2 := by injection ea
                          by_cases hw : ws (bt s x2) = true
                          · have HX' : Aside0 (z2 + 1 ≤ x2 + 1 ∧ x2 + 1 ≤ (s.size : Int) ∧ runEnd ws s (x2 + 1) = runEnd ws s (z2 + 1)) := ⟨by
                              have := HX2.out
                              exact ⟨by omega, by omega, (runEnd_step hlt hw).symm.trans this.2.2⟩⟩
                            have HM : Aside0 (((s.size : Int) - (x2 + 1)).toNat < ((s.size : Int) - x2).toNat) := ⟨by omega⟩
                            simp only [ws, Bool.or_eq_true, beq_iff_eq] at hw
                            clear hlt h0 ea HL
                            rcases hw with ((hc | hc) | hc) | hc <;> rw [hc] at hx <;> clear hc
                            all_goals go_wp2
                            all_goals go_roundg (((s.size : Int) - (x2 + 1)).toNat)
                            all_goals first
                              | (have := HQ2.out; have := HM.out; omega)
                              | exact ⟨x2 + 1, rfl, HX', ⟨rfl⟩, by repeat (first | exact Drawn0.refl _ | apply Drawn0.step)⟩
                          · have hm : runEnd ws s (z2 + 1) = x2 := by rw [← HX2.out.2.2]; exact runEnd_stop (.inr (by simpa using hw))
                            have hL := HL.out
                            rw [hm] at hL
                            by_cases c34 : bt s x2 = 34
                            · have HK1 : Aside0 (∃ kq K0 I0 P0, kq ≤ k ∧ loopF kq s x2 false 125 true K0 I0 P0 = some (K, I, P, s', j, b) ∧ (K0.length : Int) ≤ x2 ∧ (I0.length : Int) ≤ x2 ∧ 8 * ((s.size : Int) - x2) + 169 ≤ kq) := ⟨by
                                have hg := HG.out
                                have h1 := HX2.out
                                have h3 := HZ3.out
                                exact ⟨k3, _, _, _, by omega, hL, by rw [List.length_append]; simp; omega, by rw [List.length_append]; simp; omega, by omega⟩⟩
                              have HY1 : Aside0 (x ≤ x2 ∧ x2 < (s.size : Int) ∧ bt s x2 = 34) := ⟨by have := HY.out; have := HX2.out; have := HZ3.out; omega, hlt, c34⟩
                              have HM : Aside0 (((s.size : Int) - x2).toNat < ((s.size : Int) - y).toNat) := ⟨by have := HY.out; have := HX2.out; have := HZ3.out; omega⟩
                              rw [c34] at hx
                              clear hL hw hm h0 hlt c34 ea HL
                              go_wp2
                              go_step3
                              exact ⟨rfl, ⟨by repeat (first | exact Drawn0.refl _ | apply Drawn0.step), x2, _, _, _, _, _, _, _, _, _, _, _, _, _, _, _, _, _, _, _, _, _, _, _, _, _, _, _, _, _, _, _, _, _, _, _, _, _, _, _, _, _, _, _, _, _, _, _, _, _, _, _, _, _, _, _, _, _, _, _, _, _, _, _, _, _, _, _, _, _, _, _, _, _, _, _, _, _, _, _, _, _, _, _, _, _, _, _, _, _, _, _, _, HY1, HK1, rfl⟩, HM.out⟩
                            · have hb : b = true := by
                                have hg := HG.out
                                have h1 := HX2.out
                                have h3 := HZ3.out
                                obtain ⟨k4, rfl⟩ : ∃ k', k3 = k' + 1 := ⟨k3 - 1, by omega⟩
                                have hi := t_loopF HS.out h0 (by decide) (by omega) (by rw [List.length_append]; simp; omega) (by rw [List.length_append]; simp; omega) (by omega) hL
                                rcases hi with h | ⟨_, h | h⟩
                                · exact absurd h.1 (by decide)
                                · exact h.1
                                · exact absurd h.1 c34
                              subst hb
                              have hws : ¬ (ws (bt s x2) = true) := hw
                              simp only [ws, Bool.or_eq_true, beq_iff_eq, not_or] at hws
                              obtain ⟨⟨⟨z32, z9⟩, z10⟩, z13⟩ := hws
                              have f32 : (bt s x2 == 32) = false := beq_eq_false_iff_ne.mpr z32
                              have f9 : (bt s x2 == 9) = false := beq_eq_false_iff_ne.mpr z9
                              have f10 : (bt s x2 == 10) = false := beq_eq_false_iff_ne.mpr z10
                              have f13 : (bt s x2 == 13) = false := beq_eq_false_iff_ne.mpr z13
                              have f34 : (bt s x2 == 34) = false := beq_eq_false_iff_ne.mpr c34
                              clear hL hw hm z32 z9 z10 z13 h0 hlt c34 ea HL
                              go_wp2
                              simp only [Exit.jump]
                              go_ret2
                              exact ⟨_, rfl, fun h => absurd h (by decide), by repeat (first | exact Drawn0.refl _ | apply Drawn0.step)⟩
                        · have hb : b = true := by
                            have hg := HG.out
                            have h1 := HX2.out
                            have h3 := HZ3.out
                            have hm : runEnd ws s (z2 + 1) = x2 := by rw [← HX2.out.2.2]; exact runEnd_stop (.inl (by omega))
                            have hL := HL.out
                            rw [hm] at hL
                            have hbt : bt s x2 = 0 := bt_out (by omega)
                            obtain ⟨k4, rfl⟩ : ∃ k', k3 = k' + 1 := ⟨k3 - 1, by omega⟩
                            have hi := t_loopF HS.out (by omega) (by decide) (by omega) (by rw [List.length_append]; simp; omega) (by rw [List.length_append]; simp; omega) (by omega) hL
                            rcases hi with h | ⟨_, h | h⟩
                            · exact absurd h.1 (by decide)
                            · exact h.1
                            · rw [hbt] at h; exact absurd h.1 (by decide)
                          subst hb
                          have c3b0 : decide (x2 < ((bytesOf s).length : Int)) = false := decide_eq_false (by rw [len_eq]; exact hlt)
                          clear hlt HL
                          go_wp2
                          simp only [Exit.jump]
                          go_ret2
                          exact ⟨_, rfl, fun h => absurd h (by decide), by repeat (first | exact Drawn0.refl _ | apply Drawn0.step)⟩
                    · by_cases d125 : bt s z2 = 125
                      · have hzl := lt_of_bt (s := s) (i := z2) (by omega)
                        have hz0 : 0 ≤ z2 := by have := HZ2.out; have := HZ1.out; have := HG.out; omega
                        have s0 : (0 ≤ z2) = True := eq_true hz0
                        have s1 : (z2 < ((bytesOf s).length : Int)) = True := eq_true (by rw [len_eq]; exact hzl)
                        have s2 : (decide (bt s z2 = 44) || decide (bt s z2 = 125)) = true := by simp [d125]
                        obtain ⟨ad2, ea, hxz⟩ := at_byte HR0.out hz0 hzl
                        obtain rfl : ad = ad2 := by injection ea
                        have t1 : wrap64 (z2 + 1) = z2 + 1 := w64 (by have := HS.out; omega)
                        have t2 : IntKind.i64.wrap (z2 + 1) = z2 + 1 := (i64_w _).trans t1
                        have hP : b = false ∧ j = z2 + 1 := by
                          rcases HD.out with h | h | h
                          · exact absurd h.1 d44
                          · exact h.2.2
                          · exact absurd d125 h.2.1
                        have HP := Aside0.mk hP
                        rw [d125] at hxz
                        rw [s2] at HCall
                        clear d44 d125 hzl hz0 ea hP HD
                        go_wp2_with fail
                        refine (HCall.out _ (Kd.C_drewN HR0.out _)).mono ?_
                        rintro e w5 ⟨rfl, ⟨m5, rfl⟩⟩
                        go_wp2_with fail
                        simp only [Exit.jump]
                        go_ret2
                        exact ⟨z2 + 1, (by rw [HP.out.1]; rfl), fun _ => HP.out.2.symm, by repeat (first | exact Drawn0.refl _ | apply Drawn0.step)⟩
                      · have s2 : (decide (bt s z2 = 44) || decide (bt s z2 = 125)) = false := by simp [d44, d125]
                        have hb : b = true := by
                          rcases HD.out with h | h | h
                          · exact absurd h.1 d44
                          · exact absurd h.2.1 d125
                          · exact h.2.2
                        subst hb
                        rw [s2] at HCall
                        clear d44 d125 HD
                        go_wp2_with fail
                        refine (HCall.out _ (Kd.C_drewN HR0.out _)).mono ?_
                        rintro e w5 ⟨rfl, ⟨m5, rfl⟩⟩
                        go_wp2_with fail
                        simp only [Exit.jump]
                        go_ret2
                        exact ⟨z2, rfl, fun h => absurd h (by decide), by repeat (first | exact Drawn0.refl _ | apply Drawn0.step)⟩
                · rw [if_neg d58] at HVC
                  have hb : b = true := by
                    rcases HIt.out with h | h
                    · exact h.1
                    · exact absurd h.1 d58
                  subst hb
                  clear d58 HIt
                  go_wp2_with fail
                  refine (gjson_validcolon.calls kc (some ad) c0 (bytesOf s) r1 z false _ (Kd.C_drewN HR0.out _) HC0.out HVC.out).mono ?_
                  rintro e w3 ⟨rfl, ⟨m3, rfl⟩⟩
                  go_wp2_with fail
                  simp only [Exit.jump]
                  go_ret2
                  exact ⟨z, rfl, fun h => absurd h (by decide), by repeat (first | exact Drawn0.refl _ | apply Drawn0.step)⟩
          · have hws : ¬ (ws (bt s x) = true) := hw
            simp only [ws, Bool.or_eq_true, beq_iff_eq, not_or] at hws
            obtain ⟨⟨⟨z32, z9⟩, z10⟩, z13⟩ := hws
            have f32 : (bt s x == 32) = false := beq_eq_false_iff_ne.mpr z32
            have f9 : (bt s x == 9) = false := beq_eq_false_iff_ne.mpr z9
            have f10 : (bt s x == 10) = false := beq_eq_false_iff_ne.mpr z10
            have f13 : (bt s x == 13) = false := beq_eq_false_iff_ne.mpr z13
            have f125 : (bt s x == 125) = false := beq_eq_false_iff_ne.mpr c125
            have f34 : (bt s x == 34) = false := beq_eq_false_iff_ne.mpr c34
            have hb : b = true := by
              have hkk := HK.out
              have hi := t_loopF HS.out (i := x) (e := 125) (K0 := []) (I0 := []) h0 (by decide) hX.2.1 (by simp; omega) (by simp; omega) (k := k - 1) (by omega) (by rw [show k - 1 + 1 = k by omega]; exact hO)
              rcases hi with h | ⟨_, h | h⟩
              · exact absurd h.1 (by decide)
              · exact h.1
              · exact absurd h.1 c34
            subst hb
            clear hO z32 z9 z10 z13 hlt h0 hX hw hm c125 c34 HT HX
            go_wp2
            go_ret2
            exact ⟨_, rfl, fun h => absurd h (by decide), by repeat (first | exact Drawn0.refl _ | apply Drawn0.step)⟩
    · have hb : b = true := by
        rcases HX.out with h | h
        · have hmr := HI.out.2.2
          have hr : runEnd ws s x = x := runEnd_stop (.inl (by omega))
          have hm : runEnd ws s (i + 1) = x := h.2.2.symm.trans hr
          have hbt : bt s x = 0 := bt_out (by omega)
          rcases HT.out with g | g
          · rw [hm, hbt] at g; exact absurd g.1 (by decide)
          · rw [hm] at g
            have hkk := HK.out
            have hi := t_loopF HS.out (i := x) (e := 125) (K0 := []) (I0 := []) (by have := HI.out; omega) (by decide) h.2.1 (by simp; have := HI.out; omega) (by simp; have := HI.out; omega) (k := k - 1) (by have := HS.out; omega) (by rw [show k - 1 + 1 = k by have := HS.out; omega]; exact g.2)
            rcases hi with h | ⟨_, h | h⟩
            · exact absurd h.1 (by decide)
            · exact h.1
            · rw [hbt] at h; exact absurd h.1 (by decide)
        · exact h.2.2
      subst hb
      have c3b0 : decide (x < ((bytesOf s).length : Int)) = false := decide_eq_false (by rw [len_eq]; exact hlt)
      clear HT
      go_wp2
      go_ret2
      exact ⟨_, rfl, fun h => absurd h (by decide), by repeat (first | exact Drawn0.refl _ | apply Drawn0.step)⟩
end Go.Proofs.YtldfejbmdonaoaaGreatDoor.Vo