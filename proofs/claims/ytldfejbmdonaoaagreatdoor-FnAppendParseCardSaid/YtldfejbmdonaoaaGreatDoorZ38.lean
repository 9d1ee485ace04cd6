/- Joined by a program of mine from texts of this claim: Vv. -/
import Derived.Test.YtldfejbmdonaoaaGreatDoorZ37
import Derived.Test.YtldfejbmdonaoaaGreatDoorZ25
namespace Go.Proofs.YtldfejbmdonaoaaGreatDoor.Vv
open Go.RowKit YtldfejbmdonaoaaGreatDoorW.PrintWords YtldfejbmdonaoaaGreatDoorW.PrintLast YtldfejbmdonaoaaGreatDoorW.PrintMore Tw Tf Tp Te Tg Ti Tr Rd Vp Vt Vw Va Vo Sp Vs
set_option linter.unusedVariables false
set_option linter.unusedSimpArgs false
theorem any_all (s : ByteArray) (hs : (s.size : Int) ≤ 65536) : ∀ k, AnyOk s k := by
  intro k
  induction k using Nat.strongRecOn with
  | _ k ih => exact any_walk s hs k (fun m hm => object_walk s hs m fun p hp => ih p (by omega)) (fun m hm => array_walk s hs m fun p hp => ih p (by omega))
def PPost (w : World) (ok : Bool) (e : Ending) (w' : World) : Prop := ∃ r1, e = .returned (.tuple #[.int .i64 r1, .bool ok]) ∧ Drawn0 w w'
set_option maxRecDepth 100000 in
set_option maxHeartbeats 8000000 in
theorem payload_walk (s : ByteArray) (hs : (s.size : Int) ≤ 65536) (k : Nat) (hk0 : 600000 ≤ k) (T : JT) (j : Int) (b ok : Bool) (ht : treeF k s (runEnd ws s 0) false = some (T, s, j, b)) (hj1 : runEnd ws s 0 ≤ j) (hj2 : j ≤ (s.size : Int))
    (hok : ok = (!b && runEnd ws s j == (s.size : Int))) (A0 : Option Addr) (c0 : Nat) (w : World) (hr0 : Kd.C (Kd.int .u8) w A0 (bytesOf s).length (bytesOf s)) (hc0 : (bytesOf s).length ≤ c0) :
    Calls Tryz.prog 50 #[.slice A0 (bytesOf s).length c0, .int .i64 0] w (PPost w ok) := by
  have HR0 := Aside0.mk hr0
  have HC0 := Aside0.mk hc0
  have HT := Aside0.mk ht
  have HJ := Aside0.mk (And.intro hj1 hj2)
  have HK := Aside0.mk hk0
  have HOK := Aside0.mk hok
  have HS := Aside0.mk hs
  clear hr0 hc0 ht hj1 hj2 hk0 hok hs
  go_enter Tryz.func50, Tryz.ntmps50
  go_wp2
  go_loopg [1] (((s.size : Int)).toNat) (fun kq v1 w' => ∃ (x : Int), v1 = .int .i64 x ∧ Aside0 (0 ≤ x ∧ x ≤ (s.size : Int) ∧ runEnd ws s x = runEnd ws s 0) ∧ Aside0 (kq = ((s.size : Int) - x).toNat) ∧ Drawn0 w w')
  case atStart => exact ⟨0, rfl, ⟨Int.le_refl _, by omega, rfl⟩, ⟨by omega⟩, Drawn0.refl _⟩
  case round =>
    obtain ⟨x, rfl, HX, HQ, ⟨m1, rfl⟩⟩ := hrel
    by_cases hlt : x < (s.size : Int)
    · have h0 : 0 ≤ x := HX.out.1
      have c3b0 : decide (x < ((bytesOf s).length : Int)) = true := decide_eq_true (by rw [len_eq]; exact hlt)
      have c3b1 : decide (0 ≤ x) = true := decide_eq_true h0
      have q1 : (x < ((bytesOf s).length : Int)) = True := eq_true (by rw [len_eq]; exact hlt)
      have q0 : (0 ≤ x) = True := eq_true h0
      have e1 : wrap64 (x + 1) = x + 1 := w64 (by have := HS.out; omega)
      have e2 : IntKind.i64.wrap (x + 1) = x + 1 := (i64_w _).trans e1
      obtain ⟨ad, rfl, hx⟩ := at_byte HR0.out h0 hlt
      by_cases hw : ws (bt s x) = true
      · have HX' : Aside0 (0 ≤ x + 1 ∧ x + 1 ≤ (s.size : Int) ∧ runEnd ws s (x + 1) = runEnd ws s 0) := ⟨by
          have := HX.out
          exact ⟨by omega, by omega, (runEnd_step hlt hw).symm.trans this.2.2⟩⟩
        have HM : Aside0 (((s.size : Int) - (x + 1)).toNat < gk) := ⟨by have := HQ.out; omega⟩
        simp only [ws, Bool.or_eq_true, beq_iff_eq] at hw
        clear hlt h0
        rcases hw with ((hc | hc) | hc) | hc <;> rw [hc] at hx <;> clear hc
        all_goals go_wp2
        all_goals go_roundg (((s.size : Int) - (x + 1)).toNat)
        all_goals first
          | exact HM.out
          | exact ⟨x + 1, rfl, HX', ⟨rfl⟩, by repeat (first | exact Drawn0.refl _ | apply Drawn0.step)⟩
      · have hm : runEnd ws s 0 = x := by rw [← HX.out.2.2]; exact runEnd_stop (.inr (by simpa using hw))
        have hT := HT.out
        have hJ := HJ.out
        rw [hm] at hT hJ
        have hA := any_all s HS.out k (some ad) c0 (w.drewN m1) x T s j b (Kd.C_drewN HR0.out m1) HC0.out h0 (by omega) (by have := HK.out; have := HS.out; have := runEnd_le (p := ws) (s := s) (i := x) (by omega); omega) (by rw [HX.out.2.2, hm]; exact hT)
        have HA := Aside0.mk hA
        have HJJ := Aside0.mk hJ
        have hws : ¬ (ws (bt s x) = true) := hw
        simp only [ws, Bool.or_eq_true, beq_iff_eq, not_or] at hws
        obtain ⟨⟨⟨z32, z9⟩, z10⟩, z13⟩ := hws
        have f32 : (bt s x == 32) = false := beq_eq_false_iff_ne.mpr z32
        have f9 : (bt s x == 9) = false := beq_eq_false_iff_ne.mpr z9
        have f10 : (bt s x == 10) = false := beq_eq_false_iff_ne.mpr z10
        have f13 : (bt s x == 13) = false := beq_eq_false_iff_ne.mpr z13
        have HX0 := Aside0.mk h0
        clear hA hT hJ hw hm z32 z9 z10 z13 h0 hlt HT HJ e1 e2
        go_wp2_with fail
        refine HA.out.mono ?_
        rintro e w2 ⟨r1, rfl, hj, ⟨m2, rfl⟩⟩
        have HJ := Aside0.mk hj
        clear hj HA hx c3b0 c3b1 q1 q0 f32 f9 f10 f13
        cases b with
        | true =>
          have hb : ok = false := by rw [HOK.out]; rfl
          subst hb
          go_wp2_with fail
          go_ret2
          exact ⟨r1, rfl, by repeat (first | exact Drawn0.refl _ | apply Drawn0.step)⟩
        | false =>
          obtain rfl : r1 = j := HJ.out rfl
          have HO : Aside0 (ok = (runEnd ws s r1 == (s.size : Int))) := ⟨by rw [HOK.out]; simp⟩
          clear HOK HJ
          go_wp2_with fail
          go_loopg [1] (((s.size : Int) - r1).toNat) (fun kq v1 w' => ∃ (y : Int), v1 = .int .i64 y ∧ Aside0 (r1 ≤ y ∧ y ≤ (s.size : Int) ∧ runEnd ws s y = runEnd ws s r1) ∧ Aside0 (kq = ((s.size : Int) - y).toNat) ∧ Drawn0 w w')
          case atStart => exact ⟨r1, rfl, ⟨Int.le_refl _, HJJ.out.2, rfl⟩, ⟨rfl⟩, by repeat (first | exact Drawn0.refl _ | apply Drawn0.step)⟩
          case round =>
            obtain ⟨y, rfl, HY, HQ2, ⟨m3, rfl⟩⟩ := hrel
            by_cases hlt : y < (s.size : Int)
            · have h0 : 0 ≤ y := by have := HY.out; have := HJJ.out; have := HX0.out; omega
              have c3b0 : decide (y < ((bytesOf s).length : Int)) = true := decide_eq_true (by rw [len_eq]; exact hlt)
              have c3b1 : decide (0 ≤ y) = true := decide_eq_true h0
              have q1 : (y < ((bytesOf s).length : Int)) = True := eq_true (by rw [len_eq]; exact hlt)
              have q0 : (0 ≤ y) = True := eq_true h0
              have e1 : wrap64 (y + 1) = y + 1 := w64 (by have := HS.out; omega)
              have e2 : IntKind.i64.wrap (y + 1) = y + 1 := (i64_w _).trans e1
              obtain ⟨ad2, ea, hx⟩ := at_byte HR0.out h0 hlt
              obtain rfl : ad = ad2 := by injection ea
              by_cases hw : ws (bt s y) = true
              · have HX' : Aside0 (r1 ≤ y + 1 ∧ y + 1 ≤ (s.size : Int) ∧ runEnd ws s (y + 1) = runEnd ws s r1) := ⟨by
                  have := HY.out
                  exact ⟨by omega, by omega, (runEnd_step hlt hw).symm.trans this.2.2⟩⟩
                have HM : Aside0 (((s.size : Int) - (y + 1)).toNat < ((s.size : Int) - y).toNat) := ⟨by omega⟩
                simp only [ws, Bool.or_eq_true, beq_iff_eq] at hw
                clear hlt h0 ea
                rcases hw with ((hc | hc) | hc) | hc <;> rw [hc] at hx <;> clear hc
                all_goals go_wp2
                all_goals go_roundg (((s.size : Int) - (y + 1)).toNat)
                all_goals first
                  | (have := HQ2.out; have := HM.out; omega)
                  | exact ⟨y + 1, rfl, HX', ⟨rfl⟩, by repeat (first | exact Drawn0.refl _ | apply Drawn0.step)⟩
              · have hm : runEnd ws s r1 = y := by rw [← HY.out.2.2]; exact runEnd_stop (.inr (by simpa using hw))
                have hb : ok = false := by rw [HO.out, hm]; exact beq_eq_false_iff_ne.mpr (by omega)
                subst hb
                have hws : ¬ (ws (bt s y) = true) := hw
                simp only [ws, Bool.or_eq_true, beq_iff_eq, not_or] at hws
                obtain ⟨⟨⟨z32, z9⟩, z10⟩, z13⟩ := hws
                have f32 : (bt s y == 32) = false := beq_eq_false_iff_ne.mpr z32
                have f9 : (bt s y == 9) = false := beq_eq_false_iff_ne.mpr z9
                have f10 : (bt s y == 10) = false := beq_eq_false_iff_ne.mpr z10
                have f13 : (bt s y == 13) = false := beq_eq_false_iff_ne.mpr z13
                clear hw hm z32 z9 z10 z13 h0 hlt ea
                go_wp2
                go_ret2
                exact ⟨_, rfl, by repeat (first | exact Drawn0.refl _ | apply Drawn0.step)⟩
            · have hm : runEnd ws s r1 = y := by rw [← HY.out.2.2]; exact runEnd_stop (.inl (by omega))
              have hb : ok = true := by rw [HO.out, hm]; exact beq_iff_eq.mpr (by have := HY.out; omega)
              subst hb
              have c3b0 : decide (y < ((bytesOf s).length : Int)) = false := decide_eq_false (by rw [len_eq]; exact hlt)
              clear hlt hm
              go_wp2
              go_ret2
              exact ⟨_, rfl, by repeat (first | exact Drawn0.refl _ | apply Drawn0.step)⟩
    · have hb : b = true := by
        have hx := HX.out
        have hz : x = (s.size : Int) := by omega
        have hm : runEnd ws s 0 = x := by rw [← hx.2.2]; exact runEnd_stop (.inl (by omega))
        have hT := HT.out
        rw [hm] at hT
        obtain ⟨k, rfl⟩ : ∃ k', k = k' + 1 := ⟨k - 1, by have := HK.out; omega⟩
        have hbt : bt s x = 0 := bt_out (by omega)
        exact t_none HS.out hx.1 (by omega) (by have := HK.out; omega) hT (by rw [hbt]; decide) (by rw [hbt]; decide) (by rw [hbt]; decide)
      subst hb
      have hb : ok = false := by rw [HOK.out]; rfl
      subst hb
      have c3b0 : decide (x < ((bytesOf s).length : Int)) = false := decide_eq_false (by rw [len_eq]; exact hlt)
      clear hlt
      go_wp2
      go_ret2
      exact ⟨_, rfl, by repeat (first | exact Drawn0.refl _ | apply Drawn0.step)⟩
set_option maxRecDepth 100000 in
set_option maxHeartbeats 8000000 in
theorem gvalid_walk (s : ByteArray) (hs : (s.size : Int) ≤ 65536) (k : Nat) (hk0 : 600000 ≤ k) (T : JT) (j : Int) (b ok : Bool) (ht : treeF k s (runEnd ws s 0) false = some (T, s, j, b)) (hj1 : runEnd ws s 0 ≤ j) (hj2 : j ≤ (s.size : Int))
    (hok : ok = (!b && runEnd ws s j == (s.size : Int))) (w : World) : Calls Tryz.prog 33 #[.string s] w fun e w' => e = .returned (.bool ok) ∧ Below w.heap.size w w' := by
  have hp := payload_walk s hs k hk0 T j b ok ht hj1 hj2 hok
  rw [bytesOf_length] at hp
  have HP := Aside0.mk hp
  have kb := fun W => print_bytes (P := Tryz.prog) 9 53 5 Tryz.underlying9 Tryz.underlying53 Tryz.underlying5 s W
  have HR : Aside0 (Kd.C (Kd.int .u8) (Lib.bytesWorld w 5 s) (some ⟨w.heap.size, 0, none⟩) s.size (bytesOf s)) := ⟨Kd.C_of_reads (enc := Value.int .u8) (d := (0 : Int)) (h1 := fun _ => rfl) (bytes_reads w 5 s (by omega))⟩
  have HB := Aside0.mk (bytes_below (Below.refl _ w) (Nat.le_refl _) 5 s)
  clear ht hj1 hj2 hok hk0 hs hp
  go_enter Tryz.func33, Tryz.ntmps33
  go_wp2_with fail
  refine (HP.out _ _ _ HR.out (grownCap_ge _ _ _ _)).mono ?_
  rintro e w2 ⟨r1, rfl, ⟨m1, rfl⟩⟩
  go_wp2_with fail
  go_ret
  exact ⟨rfl, pw_below_drewN HB.out _⟩
set_option maxRecDepth 100000 in
set_option maxHeartbeats 8000000 in
theorem ivalid_walk (s : ByteArray) (hs : (s.size : Int) ≤ 65536) (k : Nat) (hk0 : 600000 ≤ k) (T : JT) (j : Int) (b ok : Bool) (ht : treeF k s (runEnd ws s 0) false = some (T, s, j, b)) (hj1 : runEnd ws s 0 ≤ j) (hj2 : j ≤ (s.size : Int))
    (hok : ok = (!b && runEnd ws s j == (s.size : Int))) (w : World) : Calls Tryz.prog 19 #[.string s] w fun e w' => e = .returned (.bool ok) ∧ Below w.heap.size w w' := by
  have HP := Aside0.mk (gvalid_walk s hs k hk0 T j b ok ht hj1 hj2 hok)
  clear ht hj1 hj2 hok hk0 hs
  go_enter Tryz.func19, Tryz.ntmps19
  go_wp2_with fail
  refine (HP.out _).mono ?_
  rintro e w2 ⟨rfl, hb⟩
  have HB := Aside0.mk hb
  clear hb
  go_wp2_with fail
  go_ret
  exact ⟨rfl, HB.out⟩
end Go.Proofs.YtldfejbmdonaoaaGreatDoor.Vv