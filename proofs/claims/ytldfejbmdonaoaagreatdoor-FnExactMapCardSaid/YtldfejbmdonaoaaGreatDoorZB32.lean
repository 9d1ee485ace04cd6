/- Joined by a program of mine from texts of this claim: Ts. -/
import Derived.Test.YtldfejbmdonaoaaGreatDoorZB30
import Derived.Test.YtldfejbmdonaoaaGreatDoorZB31
import Derived.Deep.RegionHeld3
namespace Go.Proofs.YtldfejbmdonaoaaGreatDoor.Ts
open Go.RowKit YtldfejbmdonaoaaGreatDoorW.PrintWords YtldfejbmdonaoaaGreatDoorW.PrintLast YtldfejbmdonaoaaGreatDoorW.PrintMore Tp Te Ub Uq Tb
set_option linter.unusedVariables false
set_option linter.unusedSimpArgs false
def cnt (u : ByteArray) : Nat → Int → Int
  | 0, _ => 0
  | n + 1, x => if bt u x = 92 then 1 + cnt u n (x - 1) else 0
def bsn (u : ByteArray) (x : Int) : Int := cnt u x.toNat x
section
variable {u : ByteArray} {x : Int}
theorem bsn_low (h : x ≤ 0) : bsn u x = 0 := by
  unfold bsn
  rw [show x.toNat = 0 by omega]
  rfl
theorem bsn_step (h : 1 ≤ x) (hc : bt u x = 92) : bsn u x = 1 + bsn u (x - 1) := by
  unfold bsn
  obtain ⟨n, hn⟩ : ∃ n : Nat, x.toNat = n + 1 := ⟨x.toNat - 1, by omega⟩
  rw [hn, show (x - 1).toNat = n by omega]
  simp [cnt, hc]
theorem bsn_stop (hc : bt u x ≠ 92) : bsn u x = 0 := by
  unfold bsn
  cases x.toNat with
  | zero => rfl
  | succ n => simp [cnt, hc]
theorem cnt_nonneg : ∀ (n : Nat) (x : Int), 0 ≤ cnt u n x ∧ cnt u n x ≤ n
  | 0, x => by simp [cnt]
  | n + 1, x => by
    have := cnt_nonneg n (x - 1)
    unfold cnt
    split <;> omega
theorem bsn_range : 0 ≤ bsn u x ∧ bsn u x ≤ x.toNat := cnt_nonneg _ _
end
theorem hx_not {c : Int} (h : hx c = true) : c ≠ 34 ∧ c ≠ 92 := by
  simp only [hx, Bool.or_eq_true, Bool.and_eq_true, decide_eq_true_eq] at h
  omega
theorem hex4_not {s : ByteArray} {i : Int} (h : hex4 s i = true) : ∀ p, i ≤ p → p < i + 4 → bt s p ≠ 34 ∧ bt s p ≠ 92 := by
  simp only [hex4, Bool.and_eq_true] at h
  obtain ⟨⟨⟨a1, a2⟩, a3⟩, a4⟩ := h
  intro p h1 h2
  have : p = i ∨ p = i + 1 ∨ p = i + 2 ∨ p = i + 3 := by omega
  rcases this with rfl | rfl | rfl | rfl
  · exact hx_not a1
  · exact hx_not a2
  · exact hx_not a3
  · exact hx_not a4
theorem esc_shape {s : ByteArray} {i : Int} {l : List Int} {p : Bool} {j : Int} (h : escR s i = some (l, p, j)) :
    (bt s i ≠ 117 ∧ esc (bt s i) = true ∧ j = i + 1) ∨ (i + 5 ≤ j ∧ bt s (j - 1) ≠ 92 ∧ ∀ p, i ≤ p → p < j → bt s p ≠ 34) := by
  unfold escR at h
  by_cases c1 : bt s i = 117
  · rw [if_pos c1] at h
    right
    by_cases c2 : hex4 s (i + 1) = true
    · rw [if_pos c2] at h
      have x1 := hex4_not c2
      have five : j = i + 5 → i + 5 ≤ j ∧ bt s (j - 1) ≠ 92 ∧ ∀ p, i ≤ p → p < j → bt s p ≠ 34 := by
        rintro rfl
        refine ⟨by omega, (x1 (i + 5 - 1) (by omega) (by omega)).2, fun p h1 h2 => ?_⟩
        by_cases e : p = i
        · rw [e, c1]; decide
        · exact (x1 p (by omega) (by omega)).1
      by_cases c3 : hexV s (i + 1) < 55296 ∨ hexV s (i + 1) > 57343
      · rw [if_pos c3] at h
        simp only [Option.some.injEq, Prod.mk.injEq] at h
        exact five h.2.2.symm
      · rw [if_neg c3] at h
        by_cases c4 : hexV s (i + 1) ≥ 56320 ∨ i + 6 ≥ (s.size : Int) ∨ bt s (i + 5) ≠ 92 ∨ bt s (i + 6) ≠ 117
        · rw [if_pos c4] at h
          simp only [Option.some.injEq, Prod.mk.injEq] at h
          exact five h.2.2.symm
        · rw [if_neg c4] at h
          by_cases c5 : hex4 s (i + 7) = true
          · rw [if_pos c5] at h
            have x2 := hex4_not c5
            have b5 : bt s (i + 5) = 92 := Decidable.byContradiction fun h => c4 (.inr (.inr (.inl h)))
            have b6 : bt s (i + 6) = 117 := Decidable.byContradiction fun h => c4 (.inr (.inr (.inr h)))
            have hj : j = i + 11 := by split at h <;> (simp only [Option.some.injEq, Prod.mk.injEq] at h; exact h.2.2.symm)
            subst hj
            refine ⟨by omega, (x2 (i + 11 - 1) (by omega) (by omega)).2, fun p h1 h2 => ?_⟩
            by_cases e : p = i
            · rw [e, c1]; decide
            by_cases e2 : p < i + 5
            · exact (x1 p (by omega) (by omega)).1
            by_cases e3 : p = i + 5
            · rw [e3, b5]; decide
            by_cases e4 : p = i + 6
            · rw [e4, b6]; decide
            · exact (x2 p (by omega) (by omega)).1
          · rw [if_neg c5] at h; exact absurd h (by simp)
    · rw [if_neg c2] at h; exact absurd h (by simp)
  · rw [if_neg c1] at h
    by_cases c2 : esc (bt s i) = true
    · rw [if_pos c2] at h
      simp only [Option.some.injEq, Prod.mk.injEq] at h
      exact .inl ⟨c1, c2, h.2.2.symm⟩
    · rw [if_neg c2] at h; exact absurd h (by simp)
theorem parity {u : ByteArray} : ∀ (n : Nat) (x : Int) {l : List Int} {p : Bool} {j : Int}, textR u n x = some (l, p, j) → 1 ≤ x → bsn u (x - 1) % 2 = 0 →
    (∀ q, x ≤ q → q < j - 1 → bt u q = 34 → bsn u (q - 1) % 2 = 1) ∧ bsn u (j - 2) % 2 = 0 ∧ bt u (j - 1) = 34 := by
  intro n
  induction n with
  | zero => intro x l p j h; exact absurd h (by simp [textR])
  | succ n ih =>
    intro x l p j h h1 hb
    unfold textR at h
    by_cases c1 : bt u x < 32
    · rw [if_pos c1] at h; exact absurd h (by simp)
    rw [if_neg c1] at h
    by_cases c2 : bt u x = 34
    · rw [if_pos c2] at h
      simp only [Option.some.injEq, Prod.mk.injEq] at h
      obtain ⟨rfl, rfl, rfl⟩ := h
      exact ⟨fun q a b => by omega, by rw [show x + 1 - 2 = x - 1 by omega]; exact hb, by rw [show x + 1 - 1 = x by omega]; exact c2⟩
    rw [if_neg c2] at h
    by_cases c3 : bt u x = 92
    · rw [if_pos c3] at h
      replace h := Option.bind_eq_some_iff.mp h
      obtain ⟨⟨e, b, i'⟩, hE, h⟩ := h
      replace h := Option.bind_eq_some_iff.mp h
      obtain ⟨⟨l', p', j'⟩, hT, h⟩ := h
      simp only [Option.some.injEq, Prod.mk.injEq] at h
      obtain ⟨rfl, rfl, rfl⟩ := h
      have hx := bsn_step h1 c3
      rcases esc_shape hE with ⟨g1, g2, rfl⟩ | ⟨g1, g2, g3⟩
      · have e : bsn u (x + 1 + 1 - 1) % 2 = 0 := by
          rw [show x + 1 + 1 - 1 = x + 1 by omega]
          by_cases c4 : bt u (x + 1) = 92
          · rw [bsn_step (by omega) c4, show x + 1 - 1 = x by omega]; omega
          · rw [bsn_stop c4]; rfl
        obtain ⟨i1, i2, i3⟩ := ih (x + 1 + 1) hT (by omega) e
        refine ⟨fun q a b hq => ?_, i2, i3⟩
        by_cases e1 : q = x
        · rw [e1] at hq; omega
        by_cases e2 : q = x + 1
        · rw [e2, show x + 1 - 1 = x by omega]; omega
        · exact i1 q (by omega) b hq
      · obtain ⟨i1, i2, i3⟩ := ih i' hT (by omega) (by rw [bsn_stop g2]; rfl)
        refine ⟨fun q a b hq => ?_, i2, i3⟩
        by_cases e1 : q = x
        · rw [e1] at hq; omega
        by_cases e2 : q < i'
        · exact absurd hq (g3 q (by omega) e2)
        · exact i1 q (by omega) b hq
    · rw [if_neg c3] at h
      replace h := Option.bind_eq_some_iff.mp h
      obtain ⟨⟨l', p', j'⟩, hT, h⟩ := h
      simp only [Option.some.injEq, Prod.mk.injEq] at h
      obtain ⟨rfl, rfl, rfl⟩ := h
      obtain ⟨i1, i2, i3⟩ := ih (x + 1) hT (by omega) (by rw [show x + 1 - 1 = x by omega, bsn_stop c3]; rfl)
      refine ⟨fun q a b hq => ?_, i2, i3⟩
      by_cases e1 : q = x
      · rw [e1] at hq; omega
      · exact i1 q (by omega) b hq
theorem str_step {u : ByteArray} {x : Int} {l : List Int} {p : Bool} {j : Int} (h : strR u x = some (l, p, j)) :
    x < (u.size : Int) ∧ 32 ≤ bt u x ∧ ((bt u x = 34 ∧ l = [] ∧ p = true ∧ j = x + 1) ∨ bt u x = 92 ∨ (bt u x ≠ 34 ∧ bt u x ≠ 92 ∧ ∃ l', strR u (x + 1) = some (l', p, j) ∧ l = bt u x :: l')) := by
  have hb := bt_range u x
  have hlt : x < (u.size : Int) := by
    refine lt_of_bt fun e => ?_
    unfold strR at h
    rw [textR, if_pos (by omega)] at h
    exact absurd h (by simp)
  refine ⟨hlt, ?_⟩
  unfold strR at h
  rw [textR] at h
  by_cases c1 : bt u x < 32
  · rw [if_pos c1] at h; exact absurd h (by simp)
  rw [if_neg c1] at h
  refine ⟨by omega, ?_⟩
  by_cases c2 : bt u x = 34
  · rw [if_pos c2] at h
    simp only [Option.some.injEq, Prod.mk.injEq] at h
    exact .inl ⟨c2, h.1.symm, h.2.1.symm, h.2.2.symm⟩
  rw [if_neg c2] at h
  by_cases c3 : bt u x = 92
  · exact .inr (.inl c3)
  rw [if_neg c3] at h
  replace h := Option.bind_eq_some_iff.mp h
  obtain ⟨⟨l', p', j'⟩, hT, h⟩ := h
  simp only [Option.some.injEq, Prod.mk.injEq] at h
  obtain ⟨rfl, rfl, rfl⟩ := h
  refine .inr (.inr ⟨c2, c3, l', ?_, rfl⟩)
  unfold strR
  rw [textR_fuel (s := u) _ (((u.size : Int) - x).toNat) (x + 1) (by omega) (by omega)]
  exact hT
theorem strOfNums_bytesOf (s : ByteArray) : strOfNums (bytesOf s) = s := by
  have hz : (strOfNums (bytesOf s)).size = s.size := by rw [strOfNums_size, bytesOf_length]
  refine Bt.ext_bt hz fun j hj => ?_
  have hj' : j < (bytesOf s).length := by rw [bytesOf_length]; omega
  have h := bytes_at s j (by omega)
  rw [List.getElem?_eq_getElem hj'] at h
  have h2 := Option.some.inj h
  rw [Bt.bt_nums hj' (by rw [h2]; exact (bt_range _ _).1) (by rw [h2]; exact (bt_range _ _).2), h2]
theorem cb_bytes {u : ByteArray} {i : Int} (h1 : 1 ≤ i) (h2 : i ≤ (u.size : Int)) : strOfNums (cbytes u 1 (i - 1)) = u.extract 1 i.toNat := by
  have h := Tb.bytes_ext (s := u) (i := 1) (n := i - 1) (by omega) (by omega) (by omega)
  rw [← h, show 1 + (i - 1) = i by omega, strOfNums_bytesOf]
  rfl
theorem cb_step {u : ByteArray} {i : Int} (h1 : 1 ≤ i) (h2 : i < (u.size : Int)) : cbytes u 1 (i + 1 - 1) = cbytes u 1 (i - 1) ++ [bt u i] := by
  rw [cbytes_is (by omega) (by omega) (by omega), cbytes_is (by omega) (by omega) (by omega)]
  rw [show (i + 1 - 1).toNat = (i - 1).toNat + 1 by omega, List.range_succ, List.map_append]
  congr 1
  simp only [List.map_cons, List.map_nil]
  rw [show 1 + (((i - 1).toNat : Nat) : Int) = i by omega]
def TsPost (u : ByteArray) (l : List Int) (p : Bool) (j : Int) (w : World) (e : Ending) (w' : World) : Prop :=
  ∃ o, e = .returned (.tuple #[.string (u.extract 0 j.toNat), .string o]) ∧ (p = true → o = strOfNums l) ∧ Below w.heap.size w w'
set_option maxRecDepth 100000 in
set_option maxHeartbeats 8000000 in
theorem tostr_walk (u : ByteArray) (hs : (u.size : Int) ≤ 70000) (h0 : bt u 0 = 34) {l : List Int} {p : Bool} {j : Int} (hR : strR u 1 = some (l, p, j)) (w : World) :
    Calls Tryz.prog 42 #[.string u] w (TsPost u l p j w) := by
  have HS := Aside0.mk hs
  have HB := Aside0.mk (fun (hp : p = true) => (body_of _ 1 hR 1 (by omega) (by omega)).2 hp)
  have HW := Aside0.mk (body_of _ 1 hR 1 (by omega) (by omega)).1
  have HJ := Aside0.mk (strR_le _ _ hR)
  have HR1 := Aside0.mk hR
  have H0 := Aside0.mk h0
  clear hs hR h0
  go_enter Tryz.func42, Tryz.ntmps42
  go_wp2
  go_loopg [4] u.size (fun kq x4 wr => ∃ (i : Int) (l' : List Int), x4 = .int .i64 i ∧ Aside0 (1 ≤ i ∧ (kq : Int) ≥ (u.size : Int) - i) ∧ Aside0 (strR u i = some (l', p, j) ∧ l = cbytes u 1 (i - 1) ++ l') ∧ Aside0 (bt u (i - 1) ≠ 92) ∧ Aside0 (Below w.heap.size w wr))
  case atStart => exact ⟨1, l, rfl, ⟨by omega⟩, ⟨HR1.out, by simp [cbytes]⟩, ⟨by rw [show (1 : Int) - 1 = 0 by omega, H0.out]; decide⟩, ⟨Below.refl _ _⟩⟩
  case round =>
    obtain ⟨i, l', rfl, HI, HR, HP, HBW⟩ := hrel
    have hst := str_step HR.out.1
    have p1 : (0 : Int) ≤ i := by have := HI.out; omega
    have p4 : i ≤ 70000 := by have := HS.out; have := hst.1; omega
    have q1 : (i < (u.size : Int)) = True := eq_true hst.1
    have c1 : decide (i < (u.size : Int)) = true := decide_eq_true hst.1
    have hx2 := bt_at u i
    have HST := Aside0.mk hst
    have HRG := Aside0.mk (bt_range u i)
    clear hst
    by_cases c92 : 92 < bt u i
    · have d1 : decide (92 < bt u i) = true := decide_eq_true c92
      have hn : bt u i ≠ 34 ∧ bt u i ≠ 92 := by omega
      clear c92
      go_wp2
      obtain ⟨l2, hl1, hl2⟩ := (HST.out.2.2.resolve_left fun h => hn.1 h.1).resolve_left hn.2 |>.2.2
      go_roundg ((u.size : Int) - (i + 1)).toNat
      case measure => have := HI.out; have := HST.out.1; omega
      case rel => exact ⟨i + 1, l2, (by first | rfl | (congr 1; omega)), ⟨by have := HI.out; have := HST.out.1; omega⟩, ⟨hl1, by rw [cb_step (by have := HI.out; omega) HST.out.1, List.append_assoc]; rw [← List.singleton_append, List.singleton_append] at *; rw [HR.out.2, hl2]; rfl⟩, ⟨by rw [show i + 1 - 1 = i by omega]; exact hn.2⟩, HBW⟩
    · have d1 : decide (92 < bt u i) = false := decide_eq_false c92
      by_cases c34 : bt u i = 34
      · have e1 : (bt u i == 34) = true := by rw [c34]; rfl
        clear c92
        go_wp2
        have b1 : (i + 1 ≤ (u.size : Int)) = True := eq_true (by have := HST.out.1; omega)
        have b2 : (0 ≤ i + 1) = True := eq_true (by omega)
        have b3 : (1 ≤ i) = True := eq_true HI.out.1
        have b4 : (i ≤ (u.size : Int)) = True := eq_true (by have := HST.out.1; omega)
        go_quiet (skip)
        rename_i nq _
        have HF := Aside0.mk (pw_below_drewN HBW.out nq)
        go_wp2
        go_ret2
        rcases HST.out.2.2 with ⟨_, x1, x2, x3⟩ | x | x
        · have hl : l = cbytes u 1 (i - 1) := by rw [HR.out.2, x1, List.append_nil]
          exact ⟨u.extract 1 i.toNat, by rw [x3]; rfl, fun _ => by rw [hl, cb_bytes HI.out.1 (by have := HST.out.1; omega)], HF.out⟩
        · exact absurd x (by omega)
        · exact absurd c34 x.1
      · have e1 : (bt u i == 34) = false := beq_eq_false_iff_ne.mpr c34
        by_cases e92 : bt u i = 92
        · have e2 : (bt u i == 92) = true := by rw [e92]; rfl
          obtain ⟨Q, hQ⟩ : ∃ Q, j - 1 = Q := ⟨_, rfl⟩
          obtain ⟨PA, PB, PC⟩ := parity _ i (show textR u _ i = _ from HR.out.1) HI.out.1 (by rw [bsn_stop HP.out]; rfl)
          rw [hQ] at PA PC
          have hiQ : i < Q := by
            have hle := strR_le _ _ HR.out.1
            by_cases e : i = Q
            · rw [e, PC] at e92; omega
            · omega
          have HQ2 : Aside0 (bsn u (Q - 1) % 2 = 0 ∧ bt u Q = 34 ∧ i < Q ∧ j = Q + 1) := ⟨⟨by rw [show Q - 1 = j - 2 by omega]; exact PB, PC, hiQ, by omega⟩⟩
          have HPA := Aside0.mk PA
          have HQ := Aside0.mk hQ
          clear PA PB PC c34 hQ c92 e92
          go_wp2
          go_loopg [4, 5, 6] (u.size : Int).toNat (fun kq x4 x5 x6 wr2 => ∃ (x : Int), x4 = .int .i64 x ∧ Aside0 (i + 1 ≤ x ∧ x ≤ Q ∧ (kq : Int) ≥ (u.size : Int) - x) ∧ Aside0 (Below w.heap.size w wr2))
          case atStart => exact ⟨i + 1, rfl, ⟨by have := HQ2.out; omega⟩, HBW⟩
          case round =>
            obtain ⟨x, rfl, HX, HBX⟩ := hrel
            clear HBW HR HP
            have hlx : x < (u.size : Int) := by have := HX.out; have := HJ.out; have := HQ2.out; omega
            have HLX := Aside0.mk hlx
            have y1 : (0 : Int) ≤ x := by have := HX.out; omega
            have y4 : x ≤ 70000 := by have := HS.out; omega
            have r1 : (x < (u.size : Int)) = True := eq_true hlx
            have r2 : decide (x < (u.size : Int)) = true := decide_eq_true hlx
            have hx3 := bt_at u x
            have HRG3 := Aside0.mk (bt_range u x)
            clear hlx
            by_cases c92 : 92 < bt u x
            · have d2 : decide (92 < bt u x) = true := decide_eq_true c92
              have hn : x ≠ Q := fun e => by rw [e, HQ2.out.2.1] at c92; omega
              clear c92
              go_wp2
              go_roundg ((u.size : Int) - (x + 1)).toNat
              case measure => have := HX.out; have := HLX.out; omega
              case rel => exact ⟨x + 1, (by first | rfl | (congr 1; omega)), ⟨by have := HX.out; have := HLX.out; omega⟩, HBX⟩
            · have d2 : decide (92 < bt u x) = false := decide_eq_false c92
              by_cases c34 : bt u x = 34
              · have e3 : (bt u x == 34) = true := by rw [c34]; rfl
                have z1 : (0 ≤ x - 1) = True := eq_true (by have := HX.out; have := HI.out; omega)
                have z2 : (x - 1 < (u.size : Int)) = True := eq_true (by have := HLX.out; omega)
                have hx4 : ∀ h : x.toNat - 1 < u.size, ((u[x.toNat - 1]'h).toNat : Int) = bt u (x - 1) := fun h => by have h2 := bt_at u (x - 1); rw [show (x - 1).toNat = x.toNat - 1 by omega] at h2; exact h2 h
                have z3 : (1 ≤ x) = True := eq_true (by have := HX.out; have := HI.out; omega)
                have z4 : ¬ (x < 1) := by have := HX.out; have := HI.out; omega
                by_cases cQ : x = Q
                · have HXQ := Aside0.mk cQ
                  by_cases cb : bt u (x - 1) = 92
                  · have e4 : (bt u (x - 1) == 92) = true := by rw [cb]; rfl
                    have hodd : Aside0 (bsn u (x - 2) % 2 = 1) := ⟨by
                      have h1 := bsn_step (u := u) (x := x - 1) (by have := HX.out; have := HI.out; omega) cb
                      have h2 := HQ2.out.1
                      rw [← HXQ.out, h1, show x - 1 - 1 = x - 2 by omega] at h2
                      omega⟩
                    clear c92 cQ
                    go_wp2
                    have hx5 := Aside0.mk hx4
                    clear hx3 hx2 hx4
                    go_loopg [5, 6] (u.size : Int).toNat (fun kq x5 x6 wr3 => ∃ (n y : Int), x5 = .int .i64 n ∧ x6 = .int .i64 y ∧ Aside0 (0 ≤ y ∧ y < x ∧ (kq : Int) ≥ y ∧ 0 ≤ n ∧ n + y ≤ x) ∧ Aside0 (n + bsn u y = bsn u (x - 2)) ∧ Aside0 (Below w.heap.size w wr3))
                    case atStart => exact ⟨0, x - 2, rfl, rfl, ⟨by have := HX.out; have := HI.out; have := HLX.out; omega⟩, ⟨by omega⟩, HBX⟩
                    case round =>
                      clear HBX
                      obtain ⟨n, y, rfl, rfl, HY, HN, HBX⟩ := hrel
                      have hx3 := bt_at u y
                      have w0 : (0 : Int) ≤ y := HY.out.1
                      have w1 : y ≤ 70000 := by have := HY.out; omega
                      have w2 : (0 : Int) ≤ n := by have := HY.out; omega
                      have w3 : n ≤ 70000 := by have := HY.out; omega
                      have w4 : (y < (u.size : Int)) = True := eq_true (by have := HY.out; have := HLX.out; omega)
                      by_cases c93 : 0 < y
                      · have HC := Aside0.mk c93
                        have d3 : decide (0 < y) = true := decide_eq_true c93
                        by_cases c94 : bt u y = 92
                        · have d4 : (bt u y == 92) = true := by rw [c94]; rfl
                          clear c93
                          go_wp2
                          go_roundg (y - 1).toNat
                          case measure => have := HY.out; have := HC.out; omega
                          case rel => have hc := HC.out; exact ⟨n + 1, y - 1, (by first | rfl | (congr 1; omega)), (by first | rfl | (congr 1; omega)), ⟨by have := HY.out; omega⟩, ⟨by rw [← HN.out, bsn_step (by omega) c94]; omega⟩, HBX⟩
                        · have d4 : (bt u y == 92) = false := beq_eq_false_iff_ne.mpr c94
                          replace HN : Aside0 (n = bsn u (x - 2)) := ⟨by have h := HN.out; rw [bsn_stop c94] at h; omega⟩
                          have f1 : Int.tmod n 2 = 1 := by rw [Int.tmod_eq_emod_of_nonneg w2]; have := HN.out; have := hodd.out; omega
                          clear c93
                          go_wp2
                          have b0 : IntKind.i64.wrap (x + 1) = x + 1 := by simp [IntKind.wrap, IntKind.signed, IntKind.bits]; omega
                          have b1 : (x + 1 ≤ (u.size : Int)) = True := eq_true (by have := HLX.out; omega)
                          have b2 : (0 ≤ x + 1) = True := eq_true (by omega)
                          have b3 : (1 ≤ x) = True := eq_true (by have := HX.out; have := HI.out; omega)
                          have b4 : (x ≤ (u.size : Int)) = True := eq_true (by have := HLX.out; omega)
                          have HXJ : Aside0 (x = j - 1) := ⟨by have := HXQ.out; have := HQ2.out; omega⟩
                          have HUE := Aside0.mk (fun W => unescape_walk (u.extract 1 x.toNat) (by rw [ByteArray.size_extract]; have := HS.out; have := HLX.out; omega) (by have h := HW.out; rw [← HXJ.out] at h; exact h) W)
                          go_region_held3 (fun _ => True) (trivial) ((go_at_call 56; refine (HUE.out _).mono ?_; rintro e w5 ⟨so, rfl, hso, hbe⟩))
                          have HF := Aside0.mk (below_then (pw_below_drewN HBX.out 1) HBX.out.size hbe)
                          have HO : Aside0 (p = true → so = strOfNums l) := ⟨fun hp => by have h := HB.out hp; rw [← HXJ.out] at h; exact hso _ h⟩
                          clear hso hbe
                          go_wp2
                          go_ret2
                          exact ⟨so, by rw [show j = x + 1 by have := HXJ.out; omega]; rfl, HO.out, HF.out⟩
                      · have d3 : decide (0 < y) = false := decide_eq_false c93
                        replace HN : Aside0 (n = bsn u (x - 2)) := ⟨by have h := HN.out; rw [bsn_low (by omega)] at h; omega⟩
                        have f1 : Int.tmod n 2 = 1 := by rw [Int.tmod_eq_emod_of_nonneg w2]; have := HN.out; have := hodd.out; omega
                        clear c93
                        go_wp2
                        have b0 : IntKind.i64.wrap (x + 1) = x + 1 := by simp [IntKind.wrap, IntKind.signed, IntKind.bits]; omega
                        have b1 : (x + 1 ≤ (u.size : Int)) = True := eq_true (by have := HLX.out; omega)
                        have b2 : (0 ≤ x + 1) = True := eq_true (by omega)
                        have b3 : (1 ≤ x) = True := eq_true (by have := HX.out; have := HI.out; omega)
                        have b4 : (x ≤ (u.size : Int)) = True := eq_true (by have := HLX.out; omega)
                        have HXJ : Aside0 (x = j - 1) := ⟨by have := HXQ.out; have := HQ2.out; omega⟩
                        have HUE := Aside0.mk (fun W => unescape_walk (u.extract 1 x.toNat) (by rw [ByteArray.size_extract]; have := HS.out; have := HLX.out; omega) (by have h := HW.out; rw [← HXJ.out] at h; exact h) W)
                        go_region_held3 (fun _ => True) (trivial) ((go_at_call 56; refine (HUE.out _).mono ?_; rintro e w5 ⟨so, rfl, hso, hbe⟩))
                        have HF := Aside0.mk (below_then (pw_below_drewN HBX.out 1) HBX.out.size hbe)
                        have HO : Aside0 (p = true → so = strOfNums l) := ⟨fun hp => by have h := HB.out hp; rw [← HXJ.out] at h; exact hso _ h⟩
                        clear hso hbe
                        go_wp2
                        go_ret2
                        exact ⟨so, by rw [show j = x + 1 by have := HXJ.out; omega]; rfl, HO.out, HF.out⟩
                  · have e4 : (bt u (x - 1) == 92) = false := beq_eq_false_iff_ne.mpr cb
                    clear c92 cQ
                    go_wp2
                    have b0 : IntKind.i64.wrap (x + 1) = x + 1 := by simp [IntKind.wrap, IntKind.signed, IntKind.bits]; omega
                    have b1 : (x + 1 ≤ (u.size : Int)) = True := eq_true (by have := HLX.out; omega)
                    have b2 : (0 ≤ x + 1) = True := eq_true (by omega)
                    have b3 : (1 ≤ x) = True := eq_true (by have := HX.out; have := HI.out; omega)
                    have b4 : (x ≤ (u.size : Int)) = True := eq_true (by have := HLX.out; omega)
                    have HXJ : Aside0 (x = j - 1) := ⟨by have := HXQ.out; have := HQ2.out; omega⟩
                    have HUE := Aside0.mk (fun W => unescape_walk (u.extract 1 x.toNat) (by rw [ByteArray.size_extract]; have := HS.out; have := HLX.out; omega) (by have h := HW.out; rw [← HXJ.out] at h; exact h) W)
                    go_region_held3 (fun _ => True) (trivial) ((go_at_call 56; refine (HUE.out _).mono ?_; rintro e w5 ⟨so, rfl, hso, hbe⟩))
                    have HF := Aside0.mk (below_then (pw_below_drewN HBX.out 1) HBX.out.size hbe)
                    have HO : Aside0 (p = true → so = strOfNums l) := ⟨fun hp => by have h := HB.out hp; rw [← HXJ.out] at h; exact hso _ h⟩
                    clear hso hbe
                    go_wp2
                    go_ret2
                    exact ⟨so, by rw [show j = x + 1 by have := HXJ.out; omega]; rfl, HO.out, HF.out⟩
                · have HXQ := Aside0.mk cQ
                  have hodd := HPA.out x (by have := HX.out; omega) (by have := HX.out; omega) c34
                  have cb : bt u (x - 1) = 92 := Decidable.byContradiction fun h => by rw [bsn_stop h] at hodd; omega
                  have e4 : (bt u (x - 1) == 92) = true := by rw [cb]; rfl
                  have heven : Aside0 (bsn u (x - 2) % 2 = 0) := ⟨by
                    have h1 := bsn_step (u := u) (x := x - 1) (by have := HX.out; have := HI.out; omega) cb
                    rw [h1, show x - 1 - 1 = x - 2 by omega] at hodd
                    omega⟩
                  have hn := cQ
                  clear c92 cQ hodd
                  go_wp2
                  have hx5 := Aside0.mk hx4
                  clear hx3 hx2 hx4
                  go_loopg [5, 6] (u.size : Int).toNat (fun kq x5 x6 wr3 => ∃ (n y : Int), x5 = .int .i64 n ∧ x6 = .int .i64 y ∧ Aside0 (0 ≤ y ∧ y < x ∧ (kq : Int) ≥ y ∧ 0 ≤ n ∧ n + y ≤ x) ∧ Aside0 (n + bsn u y = bsn u (x - 2)) ∧ Aside0 (Below w.heap.size w wr3))
                  case atStart => exact ⟨0, x - 2, rfl, rfl, ⟨by have := HX.out; have := HI.out; have := HLX.out; omega⟩, ⟨by omega⟩, HBX⟩
                  case round =>
                    clear HBX
                    obtain ⟨n, y, rfl, rfl, HY, HN, HBX⟩ := hrel
                    have hx3 := bt_at u y
                    have w0 : (0 : Int) ≤ y := HY.out.1
                    have w1 : y ≤ 70000 := by have := HY.out; omega
                    have w2 : (0 : Int) ≤ n := by have := HY.out; omega
                    have w3 : n ≤ 70000 := by have := HY.out; omega
                    have w4 : (y < (u.size : Int)) = True := eq_true (by have := HY.out; have := HLX.out; omega)
                    by_cases c93 : 0 < y
                    · have HC := Aside0.mk c93
                      have d3 : decide (0 < y) = true := decide_eq_true c93
                      by_cases c94 : bt u y = 92
                      · have d4 : (bt u y == 92) = true := by rw [c94]; rfl
                        clear c93
                        go_wp2
                        go_roundg (y - 1).toNat
                        case measure => have := HY.out; have := HC.out; omega
                        case rel => have hc := HC.out; exact ⟨n + 1, y - 1, (by first | rfl | (congr 1; omega)), (by first | rfl | (congr 1; omega)), ⟨by have := HY.out; omega⟩, ⟨by rw [← HN.out, bsn_step (by omega) c94]; omega⟩, HBX⟩
                      · have d4 : (bt u y == 92) = false := beq_eq_false_iff_ne.mpr c94
                        replace HN : Aside0 (n = bsn u (x - 2)) := ⟨by have h := HN.out; rw [bsn_stop c94] at h; omega⟩
                        have f1 : Int.tmod n 2 = 0 := by rw [Int.tmod_eq_emod_of_nonneg w2]; have := HN.out; have := heven.out; omega
                        clear c93
                        go_wp2
                        go_roundg ((u.size : Int) - (x + 1)).toNat
                        case measure => have := HX.out; have := HLX.out; omega
                        case rel => exact ⟨x + 1, (by first | rfl | (congr 1; omega)), ⟨by have := HX.out; have := HLX.out; omega⟩, HBX⟩
                    · have d3 : decide (0 < y) = false := decide_eq_false c93
                      replace HN : Aside0 (n = bsn u (x - 2)) := ⟨by have h := HN.out; rw [bsn_low (by omega)] at h; omega⟩
                      have f1 : Int.tmod n 2 = 0 := by rw [Int.tmod_eq_emod_of_nonneg w2]; have := HN.out; have := heven.out; omega
                      clear c93
                      go_wp2
                      go_roundg ((u.size : Int) - (x + 1)).toNat
                      case measure => have := HX.out; have := HLX.out; omega
                      case rel => exact ⟨x + 1, (by first | rfl | (congr 1; omega)), ⟨by have := HX.out; have := HLX.out; omega⟩, HBX⟩
              · have e3 : (bt u x == 34) = false := beq_eq_false_iff_ne.mpr c34
                have hn : x ≠ Q := fun e => c34 (by rw [e, HQ2.out.2.1])
                clear c92 c34
                go_wp2
                go_roundg ((u.size : Int) - (x + 1)).toNat
                case measure => have := HX.out; have := HLX.out; omega
                case rel => exact ⟨x + 1, (by first | rfl | (congr 1; omega)), ⟨by have := HX.out; have := HLX.out; omega⟩, HBX⟩
        · have e2 : (bt u i == 92) = false := beq_eq_false_iff_ne.mpr e92
          have hn : bt u i ≠ 34 ∧ bt u i ≠ 92 := ⟨c34, e92⟩
          clear c92 c34 e92
          go_wp2
          obtain ⟨l2, hl1, hl2⟩ := (HST.out.2.2.resolve_left fun h => hn.1 h.1).resolve_left hn.2 |>.2.2
          go_roundg ((u.size : Int) - (i + 1)).toNat
          case measure => have := HI.out; have := HST.out.1; omega
          case rel => exact ⟨i + 1, l2, (by first | rfl | (congr 1; omega)), ⟨by have := HI.out; have := HST.out.1; omega⟩, ⟨hl1, by rw [cb_step (by have := HI.out; omega) HST.out.1, List.append_assoc]; rw [← List.singleton_append, List.singleton_append] at *; rw [HR.out.2, hl2]; rfl⟩, ⟨by rw [show i + 1 - 1 = i by omega]; exact hn.2⟩, HBW⟩
end Go.Proofs.YtldfejbmdonaoaaGreatDoor.Ts