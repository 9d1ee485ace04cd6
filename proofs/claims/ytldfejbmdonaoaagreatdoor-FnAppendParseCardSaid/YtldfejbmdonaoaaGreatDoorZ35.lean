/- Joined by a program of mine from texts of this claim: Vw. -/
import Derived.Test.YtldfejbmdonaoaaGreatDoorZ34
import Derived.Test.YtldfejbmdonaoaaGreatDoorZ23
import Derived.RegionTactic
import Derived.BigRegion
import Derived.Deep.LoopGhost
namespace Go.Proofs.YtldfejbmdonaoaaGreatDoor.Vw
open Go.RowKit YtldfejbmdonaoaaGreatDoorW.PrintWords YtldfejbmdonaoaaGreatDoorW.PrintLast YtldfejbmdonaoaaGreatDoorW.PrintMore Tw Tf Tp Te Tg Ti Vp Vt Sp Vs
set_option linter.unusedVariables false
set_option linter.unusedSimpArgs false
def VPost (w : World) (j : Int) (bad : Bool) (e : Ending) (w' : World) : Prop := ∃ r1, e = .returned (.tuple #[.int .i64 r1, .bool (!bad)]) ∧ (bad = false → r1 = j) ∧ Drawn0 w w'
def AnyOk (s : ByteArray) (k : Nat) : Prop := ∀ (A0 : Option Addr) (c0 : Nat) (w : World) (i : Int) (T : JT) (s' : ByteArray) (j : Int) (b : Bool), Kd.C (Kd.int .u8) w A0 (bytesOf s).length (bytesOf s) → (bytesOf s).length ≤ c0 →
  0 ≤ i → i ≤ (s.size : Int) → 8 * ((s.size : Int) - runEnd ws s i) + 164 ≤ k → treeF k s (runEnd ws s i) false = some (T, s', j, b) →
  Calls Tryz.prog 59 #[.slice A0 (bytesOf s).length c0, .int .i64 i] w (VPost w j b)
def ListOk (s : ByteArray) (f : FuncId) (e : Int) (ks : Bool) (k : Nat) : Prop := ∀ (A0 : Option Addr) (c0 : Nat) (w : World) (i : Int) (K : List ByteArray) (I : List JT) (P : Bool) (s' : ByteArray) (j : Int) (b : Bool), Kd.C (Kd.int .u8) w A0 (bytesOf s).length (bytesOf s) → (bytesOf s).length ≤ c0 →
  0 ≤ i → i + 1 ≤ (s.size : Int) → 8 * ((s.size : Int) - (i + 1)) + 170 ≤ k → listF k s i false e ks = some (K, I, P, s', j, b) →
  Calls Tryz.prog f #[.slice A0 (bytesOf s).length c0, .int .i64 (i + 1)] w (VPost w j b)
theorem at_byte {w : World} {A0 : Option Addr} {s : ByteArray} {x : Int} (h : Kd.C (Kd.int .u8) w A0 (bytesOf s).length (bytesOf s)) (h0 : 0 ≤ x) (h1 : x < (s.size : Int)) :
    ∃ ad, A0 = some ad ∧ w.cell? (ad.add x.toNat) = some (.int .u8 (bt s x)) := by
  obtain ⟨ad, e, hx⟩ := Kd.at_int h x h0 (by rw [len_eq]; exact h1)
  rw [rd_bytesOf] at hx
  exact ⟨ad, e, hx⟩
set_option maxRecDepth 100000 in
set_option maxHeartbeats 8000000 in
theorem any_walk (s : ByteArray) (hs : (s.size : Int) ≤ 65536) (k : Nat) (iho : ∀ m, m < k → ListOk s 67 125 true m) (iha : ∀ m, m < k → ListOk s 68 93 false m) : AnyOk s k := by
  intro A0 c0 w i T s' j b hr0 hc0 h0 h1 hk h
  have HR0 := Aside0.mk hr0
  have HC0 := Aside0.mk hc0
  have HT := Aside0.mk h
  have HK := Aside0.mk hk
  have HI := Aside0.mk (And.intro h0 h1)
  have HS := Aside0.mk hs
  clear hr0 hc0 h hk h0 h1 hs
  go_enter Tryz.func59, Tryz.ntmps59
  go_wp2
  go_loopg [1] (((s.size : Int) - i).toNat) (fun kq v1 w' => ∃ (x : Int), v1 = .int .i64 x ∧ Aside0 (i ≤ x ∧ x ≤ (s.size : Int) ∧ runEnd ws s x = runEnd ws s i) ∧ Aside0 (kq = ((s.size : Int) - x).toNat) ∧ Drawn0 w w')
  case atStart => exact ⟨i, rfl, ⟨Int.le_refl _, HI.out.2, rfl⟩, ⟨rfl⟩, Drawn0.refl _⟩
  case round =>
    obtain ⟨x, rfl, HX, HQ, ⟨m1, rfl⟩⟩ := hrel
    by_cases hlt : x < (s.size : Int)
    · have h0 : 0 ≤ x := by have := HX.out; have := HI.out; omega
      have c3b0 : decide (x < ((bytesOf s).length : Int)) = true := decide_eq_true (by rw [len_eq]; exact hlt)
      have c3b1 : decide (0 ≤ x) = true := decide_eq_true h0
      have q1 : (x < ((bytesOf s).length : Int)) = True := eq_true (by rw [len_eq]; exact hlt)
      have q0 : (0 ≤ x) = True := eq_true h0
      have e1 : wrap64 (x + 1) = x + 1 := w64 (by have := HS.out; omega)
      have e2 : IntKind.i64.wrap (x + 1) = x + 1 := (i64_w _).trans e1
      obtain ⟨ad, rfl, hx⟩ := at_byte HR0.out h0 hlt
      by_cases hw : ws (bt s x) = true
      · have HX' : Aside0 (i ≤ x + 1 ∧ x + 1 ≤ (s.size : Int) ∧ runEnd ws s (x + 1) = runEnd ws s i) := ⟨by
          have := HX.out
          exact ⟨by omega, by omega, (runEnd_step hlt hw).symm.trans this.2.2⟩⟩
        have HM : Aside0 (((s.size : Int) - (x + 1)).toNat < gk) := ⟨by have := HQ.out; omega⟩
        simp only [ws, Bool.or_eq_true, beq_iff_eq] at hw
        clear hlt h0
        rcases hw with ((hc | hc) | hc) | hc <;> rw [hc] at hx <;> clear hc
        all_goals go_wp2
        all_goals go_roundg (((s.size : Int) - (x + 1)).toNat)
        all_goals first
          | exact HM.out
          | exact ⟨x + 1, rfl, HX', ⟨rfl⟩, by repeat (first | exact Drawn0.refl _ | apply Drawn0.step)⟩
      · have hm : runEnd ws s i = x := by rw [← HX.out.2.2]; exact runEnd_stop (.inr (by simpa using hw))
        have hT := HT.out
        have hkk := HK.out
        rw [hm] at hT hkk
        obtain ⟨k, rfl⟩ : ∃ k', k = k' + 1 := ⟨k - 1, by have := HS.out; omega⟩
        have hwn := hw
        clear HT HK HQ hw hm
        by_cases c34 : bt s x = 34
        · have hA := t_str HS.out h0 (by omega) (by omega) hT c34
          obtain ⟨r1, ok, ⟨ks, hV⟩, hM⟩ := string_is (s := s) (by have := HS.out; omega) _ (x + 1) (by omega) (by omega) (Nat.lt_succ_self _)
          have hP : ok = (!b) ∧ (b = false → r1 = j) := by
            revert hA hM
            unfold strR
            cases textR s (((s.size : Int) - (x + 1)).toNat + 1) (x + 1) with
            | none => intro a c; exact ⟨by rw [c, a]; rfl, fun h => by rw [a] at h; exact absurd h (by decide)⟩
            | some r => intro a c; exact ⟨by rw [c.1, a.1]; rfl, fun _ => by rw [c.2, a.2]⟩
          have HP := Aside0.mk hP
          have HV := Aside0.mk hV
          rw [c34] at hx
          clear hA hM hP hV hT hkk hlt h0 c34
          go_wp2_with fail
          refine (gjson_validstring.calls ks (some ad) c0 (bytesOf s) (x + 1) r1 ok _ (Kd.C_drewN HR0.out m1) HC0.out HV.out).mono ?_
          rintro e w2 ⟨rfl, ⟨m2, rfl⟩⟩
          go_wp2_with fail
          go_ret2
          exact ⟨r1, (by rw [HP.out.1]; rfl), HP.out.2, by repeat (first | exact Drawn0.refl _ | apply Drawn0.step)⟩
        by_cases c116 : bt s x = 116
        · have hA := t_word HS.out h0 (by omega) (by omega) hT 116 (⟨#[116, 114, 117, 101]⟩ : ByteArray) (.inl ⟨rfl, rfl⟩) c116
          obtain ⟨⟨r1, ok⟩, hV, hM1, hM2⟩ := true_is (s := s) (by have := HS.out; omega) h0 c116
          have hP : ok = (!b) ∧ (b = false → r1 = j) := by
            have hsz : (((⟨#[116, 114, 117, 101]⟩ : ByteArray).size : Nat) : Int) = 4 := rfl
            cases hb : b with
            | false =>
              have h2 := hA.1 hb
              exact ⟨hM2 h2.2, fun _ => by
                have h3 : r1 = x + 4 := (hM1 (hM2 h2.2)).1
                rw [h3, h2.1, hsz]⟩
            | true =>
              cases hok : ok with
              | false => exact ⟨rfl, fun h => absurd h (by decide)⟩
              | true =>
                have := hA.2 (hM1 hok).2
                rw [hb] at this
                exact absurd this (by decide)
          have HP := Aside0.mk hP
          have HV := Aside0.mk hV
          rw [c116] at hx
          clear hA hM1 hM2 hP hV hT hkk hlt h0 c116 c34
          go_wp2_with fail
          refine (gjson_validtrue.calls (some ad) c0 (bytesOf s) (x + 1) r1 ok _ (Kd.C_drewN HR0.out m1) HC0.out HV.out).mono ?_
          rintro e w2 ⟨rfl, ⟨m2, rfl⟩⟩
          go_wp2_with fail
          go_ret2
          exact ⟨r1, (by rw [HP.out.1]; rfl), HP.out.2, by repeat (first | exact Drawn0.refl _ | apply Drawn0.step)⟩
        by_cases c102 : bt s x = 102
        · have hA := t_word HS.out h0 (by omega) (by omega) hT 102 (⟨#[102, 97, 108, 115, 101]⟩ : ByteArray) (.inr (.inl ⟨rfl, rfl⟩)) c102
          obtain ⟨⟨r1, ok⟩, hV, hM1, hM2⟩ := false_is (s := s) (by have := HS.out; omega) h0 c102
          have hP : ok = (!b) ∧ (b = false → r1 = j) := by
            have hsz : (((⟨#[102, 97, 108, 115, 101]⟩ : ByteArray).size : Nat) : Int) = 5 := rfl
            cases hb : b with
            | false =>
              have h2 := hA.1 hb
              exact ⟨hM2 h2.2, fun _ => by
                have h3 : r1 = x + 5 := (hM1 (hM2 h2.2)).1
                rw [h3, h2.1, hsz]⟩
            | true =>
              cases hok : ok with
              | false => exact ⟨rfl, fun h => absurd h (by decide)⟩
              | true =>
                have := hA.2 (hM1 hok).2
                rw [hb] at this
                exact absurd this (by decide)
          have HP := Aside0.mk hP
          have HV := Aside0.mk hV
          rw [c102] at hx
          clear hA hM1 hM2 hP hV hT hkk hlt h0 c102 c34 c116
          go_wp2_with fail
          refine (gjson_validfalse.calls (some ad) c0 (bytesOf s) (x + 1) r1 ok _ (Kd.C_drewN HR0.out m1) HC0.out HV.out).mono ?_
          rintro e w2 ⟨rfl, ⟨m2, rfl⟩⟩
          go_wp2_with fail
          go_ret2
          exact ⟨r1, (by rw [HP.out.1]; rfl), HP.out.2, by repeat (first | exact Drawn0.refl _ | apply Drawn0.step)⟩
        by_cases c110 : bt s x = 110
        · have hA := t_word HS.out h0 (by omega) (by omega) hT 110 (⟨#[110, 117, 108, 108]⟩ : ByteArray) (.inr (.inr ⟨rfl, rfl⟩)) c110
          obtain ⟨⟨r1, ok⟩, hV, hM1, hM2⟩ := null_is (s := s) (by have := HS.out; omega) h0 c110
          have hP : ok = (!b) ∧ (b = false → r1 = j) := by
            have hsz : (((⟨#[110, 117, 108, 108]⟩ : ByteArray).size : Nat) : Int) = 4 := rfl
            cases hb : b with
            | false =>
              have h2 := hA.1 hb
              exact ⟨hM2 h2.2, fun _ => by
                have h3 : r1 = x + 4 := (hM1 (hM2 h2.2)).1
                rw [h3, h2.1, hsz]⟩
            | true =>
              cases hok : ok with
              | false => exact ⟨rfl, fun h => absurd h (by decide)⟩
              | true =>
                have := hA.2 (hM1 hok).2
                rw [hb] at this
                exact absurd this (by decide)
          have HP := Aside0.mk hP
          have HV := Aside0.mk hV
          rw [c110] at hx
          clear hA hM1 hM2 hP hV hT hkk hlt h0 c110 c34 c116 c102
          go_wp2_with fail
          refine (gjson_validnull.calls (some ad) c0 (bytesOf s) (x + 1) r1 ok _ (Kd.C_drewN HR0.out m1) HC0.out HV.out).mono ?_
          rintro e w2 ⟨rfl, ⟨m2, rfl⟩⟩
          go_wp2_with fail
          go_ret2
          exact ⟨r1, (by rw [HP.out.1]; rfl), HP.out.2, by repeat (first | exact Drawn0.refl _ | apply Drawn0.step)⟩
        by_cases c123 : bt s x = 123
        · obtain ⟨K, I, P, hL⟩ := t_list HS.out h0 (by omega) (by omega) hT 125 true (.inl ⟨c123, rfl, rfl⟩)
          have HC := Aside0.mk (iho k (Nat.lt_succ_self k) (some ad) c0 (w.drewN m1) x K I P s j b (Kd.C_drewN HR0.out m1) HC0.out h0 (by omega) (by omega) hL)
          rw [c123] at hx
          clear hL hT hkk hlt h0 iho iha
          go_wp2_with fail
          refine HC.out.mono ?_
          rintro e w2 ⟨r1, rfl, hj, ⟨m2, rfl⟩⟩
          have HJ := Aside0.mk hj
          clear hj HC
          go_wp2_with fail
          go_ret2
          exact ⟨r1, rfl, HJ.out, by repeat (first | exact Drawn0.refl _ | apply Drawn0.step)⟩
        by_cases c91 : bt s x = 91
        · obtain ⟨K, I, P, hL⟩ := t_list HS.out h0 (by omega) (by omega) hT 93 false (.inr ⟨c91, rfl, rfl⟩)
          have HC := Aside0.mk (iha k (Nat.lt_succ_self k) (some ad) c0 (w.drewN m1) x K I P s j b (Kd.C_drewN HR0.out m1) HC0.out h0 (by omega) (by omega) hL)
          rw [c91] at hx
          clear hL hT hkk hlt h0 iho iha
          go_wp2_with fail
          refine HC.out.mono ?_
          rintro e w2 ⟨r1, rfl, hj, ⟨m2, rfl⟩⟩
          have HJ := Aside0.mk hj
          clear hj HC
          go_wp2_with fail
          go_ret2
          exact ⟨r1, rfl, HJ.out, by repeat (first | exact Drawn0.refl _ | apply Drawn0.step)⟩
        by_cases cn : bt s x = 45 ∨ dg (bt s x) = true
        · obtain ⟨ks, ⟨r1, ok⟩, hV, hN⟩ := number_is (s := s) (by have := HS.out; omega) h0 cn
          have hA := t_num HS.out h0 (by omega) (by omega) hT ⟨c34, c116, c102, c110, c123, c91⟩
          have HP : Aside0 (ok = (!b) ∧ (b = false → r1 = j)) := ⟨by rw [hA.1, hA.2]; exact hN⟩
          have HV := Aside0.mk hV
          have hcs : bt s x = 45 ∨ bt s x = 48 ∨ bt s x = 49 ∨ bt s x = 50 ∨ bt s x = 51 ∨ bt s x = 52 ∨ bt s x = 53 ∨ bt s x = 54 ∨ bt s x = 55 ∨ bt s x = 56 ∨ bt s x = 57 := by
            rcases cn with h | h
            · exact .inl h
            · simp only [dg, Bool.and_eq_true, decide_eq_true_eq] at h
              omega
          clear hA hN hV hT hkk hlt h0 cn c34 c116 c102 c110 c123 c91
          rcases hcs with hc | hc | hc | hc | hc | hc | hc | hc | hc | hc | hc <;> rw [hc] at hx <;> clear hc
          all_goals go_wp2_with fail
          all_goals refine (gjson_validnumber.calls ks (some ad) c0 (bytesOf s) (x + 1) r1 ok _ (Kd.C_drewN HR0.out m1) HC0.out HV.out).mono ?_
          all_goals rintro e w2 ⟨rfl, ⟨m2, rfl⟩⟩
          all_goals go_wp2_with fail
          all_goals go_ret2
          all_goals exact ⟨r1, (by rw [HP.out.1]; rfl), HP.out.2, by repeat (first | exact Drawn0.refl _ | apply Drawn0.step)⟩
        · have hb : b = true := t_none HS.out h0 (by omega) (by omega) hT ⟨c34, c116, c102, c110, c123, c91⟩ (fun h => cn (.inl h)) (by simpa using fun h => cn (.inr h))
          subst hb
          have hdg : ¬ (48 ≤ bt s x ∧ bt s x ≤ 57) := fun h => cn (.inr (by simp [dg, h.1, h.2]))
          have h45 : bt s x ≠ 45 := fun h => cn (.inl h)
          have hws : ¬ (ws (bt s x) = true) := hwn
          simp only [ws, Bool.or_eq_true, beq_iff_eq, not_or] at hws
          obtain ⟨⟨⟨z32, z9⟩, z10⟩, z13⟩ := hws
          have f32 : (bt s x == 32) = false := beq_eq_false_iff_ne.mpr (by omega)
          have f9 : (bt s x == 9) = false := beq_eq_false_iff_ne.mpr (by omega)
          have f10 : (bt s x == 10) = false := beq_eq_false_iff_ne.mpr (by omega)
          have f13 : (bt s x == 13) = false := beq_eq_false_iff_ne.mpr (by omega)
          have f123 : (bt s x == 123) = false := beq_eq_false_iff_ne.mpr (by omega)
          have f91 : (bt s x == 91) = false := beq_eq_false_iff_ne.mpr (by omega)
          have f34 : (bt s x == 34) = false := beq_eq_false_iff_ne.mpr (by omega)
          have f45 : (bt s x == 45) = false := beq_eq_false_iff_ne.mpr (by omega)
          have f48 : (bt s x == 48) = false := beq_eq_false_iff_ne.mpr (by omega)
          have f49 : (bt s x == 49) = false := beq_eq_false_iff_ne.mpr (by omega)
          have f50 : (bt s x == 50) = false := beq_eq_false_iff_ne.mpr (by omega)
          have f51 : (bt s x == 51) = false := beq_eq_false_iff_ne.mpr (by omega)
          have f52 : (bt s x == 52) = false := beq_eq_false_iff_ne.mpr (by omega)
          have f53 : (bt s x == 53) = false := beq_eq_false_iff_ne.mpr (by omega)
          have f54 : (bt s x == 54) = false := beq_eq_false_iff_ne.mpr (by omega)
          have f55 : (bt s x == 55) = false := beq_eq_false_iff_ne.mpr (by omega)
          have f56 : (bt s x == 56) = false := beq_eq_false_iff_ne.mpr (by omega)
          have f57 : (bt s x == 57) = false := beq_eq_false_iff_ne.mpr (by omega)
          have f116 : (bt s x == 116) = false := beq_eq_false_iff_ne.mpr (by omega)
          have f102 : (bt s x == 102) = false := beq_eq_false_iff_ne.mpr (by omega)
          have f110 : (bt s x == 110) = false := beq_eq_false_iff_ne.mpr (by omega)
          clear hT hkk hlt h0 cn hdg h45 z32 z9 z10 z13 c34 c116 c102 c110 c123 c91 iho iha hwn
          go_wp2
          go_ret2
          exact ⟨_, rfl, fun h => absurd h (by decide), by repeat (first | exact Drawn0.refl _ | apply Drawn0.step)⟩
    · have c3b0 : decide (x < ((bytesOf s).length : Int)) = false := decide_eq_false (by rw [len_eq]; exact hlt)
      have hb : b = true := by
        have hx := HX.out
        have hz : x = (s.size : Int) := by omega
        have hm : runEnd ws s i = x := by rw [← hx.2.2]; exact runEnd_stop (.inl (by omega))
        have hT := HT.out
        have hkk := HK.out
        rw [hm] at hT hkk
        obtain ⟨k, rfl⟩ : ∃ k', k = k' + 1 := ⟨k - 1, by omega⟩
        have hbt : bt s x = 0 := bt_out (by omega)
        exact t_none HS.out (by have := HI.out; omega) (by omega) (by omega) hT (by rw [hbt]; decide) (by rw [hbt]; decide) (by rw [hbt]; decide)
      subst hb
      go_wp2
      go_ret2
      exact ⟨_, rfl, fun h => absurd h (by decide), by repeat (first | exact Drawn0.refl _ | apply Drawn0.step)⟩
end Go.Proofs.YtldfejbmdonaoaaGreatDoor.Vw