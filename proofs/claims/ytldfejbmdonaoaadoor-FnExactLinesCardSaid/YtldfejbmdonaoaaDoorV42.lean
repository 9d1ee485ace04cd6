/- Joined by a program of mine from texts of this claim: Ls. -/
import Derived.Test.YtldfejbmdonaoaaDoorV41
import Derived.Deep.LoopGhost
import Derived.BigQuiet
namespace Go.Proofs.YtldfejbmdonaoaaDoor.Ls
open Go.RowKit YtldfejbmdonaoaaDoorW.PrintWords YtldfejbmdonaoaaDoorW.PrintLast YtldfejbmdonaoaaDoorW.PrintMore Tp Te Ts Sn
set_option linter.unusedVariables false
set_option linter.unusedSimpArgs false
def StrPart (u : ByteArray) (a q : Int) (w : World) (e : Ending) (w' : World) : Prop := ∃ b : Bool, e = .returned (.tuple #[.int .i64 (q + 1), .string (u.extract (a - 1).toNat (q + 1).toNat), .bool b, .bool true]) ∧ ∃ m, w' = w.drewN m
set_option maxRecDepth 100000 in
set_option maxHeartbeats 8000000 in
theorem str_walk (u : ByteArray) (a q : Int) (hs : (u.size : Int) ≤ 200000) (hE : StrEnd u a q) (w : World) :
    Calls Tryd.prog 48 #[.string u, .int .i64 a] w (StrPart u a q w) := by
  have HS := Aside0.mk hs
  have HE := Aside0.mk hE
  have a1 : 1 ≤ a := hE.lo
  have a4 : a ≤ 200000 := by have := hE.le; have := hE.lt; omega
  clear hs hE
  go_enter Tryd.func48, Tryd.ntmps48
  go_wp2_with fail
  go_loopg [1] u.size (fun kq x1 wr => ∃ (i : Int), x1 = .int .i64 i ∧ Aside0 (a ≤ i ∧ i ≤ q ∧ (kq : Int) ≥ (u.size : Int) - i) ∧ Aside0 (bt u (i - 1) ≠ 92) ∧ Aside0 (∃ m, wr = w.drewN m))
  case atStart => exact ⟨a, rfl, ⟨by have := HE.out.le; have := HE.out.lt; omega⟩, ⟨by rw [HE.out.q0]; decide⟩, ⟨⟨0, rfl⟩⟩⟩
  case round =>
    obtain ⟨i, rfl, HI, HP, HW⟩ := hrel
    have hlt : i < (u.size : Int) := by have := HI.out; have := HE.out.lt; omega
    have p1 : (0 : Int) ≤ i := by have := HI.out; omega
    have p4 : i ≤ 200000 := by have := HS.out; omega
    have p5 : a ≤ i := HI.out.1
    have q1 : (i < (u.size : Int)) = True := eq_true hlt
    have c1 : decide (i < (u.size : Int)) = true := decide_eq_true hlt
    have hx2 := bt_at u i
    have HLT := Aside0.mk hlt
    clear hlt
    by_cases c92 : 92 < bt u i
    · have d1 : decide (92 < bt u i) = true := decide_eq_true c92
      have hn : i ≠ q := fun e => by have := HE.out.q; rw [← e] at this; omega
      have hn2 : bt u i ≠ 92 := by omega
      have HN := Aside0.mk (And.intro hn hn2)
      clear c92 hn hn2
      go_wp2_with fail
      go_roundg ((u.size : Int) - (i + 1)).toNat
      case measure => have := HI.out; have := HLT.out; omega
      case rel => exact ⟨i + 1, (by first | rfl | (congr 1; omega)), ⟨by have := HI.out; have := HLT.out; have := HN.out; omega⟩, ⟨by rw [show i + 1 - 1 = i by omega]; exact HN.out.2⟩, HW⟩
    · have d1 : decide (92 < bt u i) = false := decide_eq_false c92
      by_cases c34 : bt u i = 34
      · have e1 : (bt u i == 34) = true := by rw [c34]; rfl
        have hiq : i = q := Decidable.byContradiction fun h => by
          have := HE.out.odd i HI.out.1 (by have := HI.out; omega) c34
          rw [bsn_stop HP.out] at this
          omega
        have HIQ := Aside0.mk hiq
        have b0 : IntKind.i64.wrap (i + 1) = i + 1 := by simp [IntKind.wrap, IntKind.signed, IntKind.bits]; omega
        have b1 : (i + 1 ≤ (u.size : Int)) = True := eq_true (by have := HLT.out; omega)
        have b2 : (0 ≤ i + 1) = True := eq_true (by omega)
        have b3 : (a - 1 ≤ i + 1) = True := eq_true (by omega)
        have b4 : (0 ≤ a - 1) = True := eq_true (by omega)
        obtain ⟨m, hm⟩ := HW.out
        subst hm
        clear c92 c34 hiq HW
        go_wp2_with fail
        go_quiet (fail)
        go_wp2
        refine bodyPost_ret (v := .tuple #[.int .i64 (i + 1), .string (u.extract (a - 1).toNat (i + 1).toNat), .bool false, .bool true]) (by simp [results, Tryd.results48, go_sem]) rfl ?_
        rw [← HIQ.out]
        exact ⟨false, rfl, _, World.drewN_drewN ..⟩
      · have e1 : (bt u i == 34) = false := beq_eq_false_iff_ne.mpr c34
        have hnq : i ≠ q := fun e => c34 (by rw [e]; exact HE.out.q)
        by_cases e92 : bt u i = 92
        · have e2 : (bt u i == 92) = true := by rw [e92]; rfl
          have HNQ := Aside0.mk hnq
          clear c92 c34 e92 hnq
          go_wp2_with fail
          go_loopg [1, 9, 10] u.size (fun kq x1 x9 x10 wr2 => ∃ (x : Int), x1 = .int .i64 x ∧ Aside0 (a + 1 ≤ x ∧ x ≤ q ∧ (kq : Int) ≥ (u.size : Int) - x) ∧ Aside0 (∃ m, wr2 = w.drewN m))
          case atStart => exact ⟨i + 1, rfl, ⟨by have := HI.out; have := HNQ.out; have := HE.out.lt; omega⟩, HW⟩
          case round =>
            obtain ⟨x, rfl, HX, HWX⟩ := hrel
            clear HW HP
            have hlx : x < (u.size : Int) := by have := HX.out; have := HE.out.lt; omega
            have y1 : (0 : Int) ≤ x := by have := HX.out; omega
            have y2 : 2 ≤ x := by have := HX.out; omega
            have y4 : x ≤ 200000 := by have := HS.out; omega
            have y5 : a ≤ x := by have := HX.out; omega
            have r1 : (x < (u.size : Int)) = True := eq_true hlx
            have r2 : decide (x < (u.size : Int)) = true := decide_eq_true hlx
            have hx3 := bt_at u x
            have HLX := Aside0.mk hlx
            clear hlx
            by_cases c92 : 92 < bt u x
            · have d2 : decide (92 < bt u x) = true := decide_eq_true c92
              have hn : x ≠ q := fun e => by have := HE.out.q; rw [← e] at this; omega
              have HN := Aside0.mk hn
              clear c92 hn
              go_wp2_with fail
              go_roundg ((u.size : Int) - (x + 1)).toNat
              case measure => have := HX.out; have := HLX.out; omega
              case rel => exact ⟨x + 1, (by first | rfl | (congr 1; omega)), ⟨by have := HX.out; have := HLX.out; have := HN.out; omega⟩, HWX⟩
            · have d2 : decide (92 < bt u x) = false := decide_eq_false c92
              by_cases c34 : bt u x = 34
              · have e3 : (bt u x == 34) = true := by rw [c34]; rfl
                have z1 : (0 ≤ x - 1) = True := eq_true (by omega)
                have z2 : (x - 1 < (u.size : Int)) = True := eq_true (by have := HLX.out; omega)
                have hx4 : ∀ h : x.toNat - 1 < u.size, ((u[x.toNat - 1]'h).toNat : Int) = bt u (x - 1) := fun h => by have h2 := bt_at u (x - 1); rw [show (x - 1).toNat = x.toNat - 1 by omega] at h2; exact h2 h
                have z3 : (1 ≤ x) = True := eq_true (by omega)
                have z4 : ¬ (x < 1) := by omega
                have b0 : IntKind.i64.wrap (x + 1) = x + 1 := by simp [IntKind.wrap, IntKind.signed, IntKind.bits]; omega
                have b1 : (x + 1 ≤ (u.size : Int)) = True := eq_true (by have := HLX.out; omega)
                have b2 : (0 ≤ x + 1) = True := eq_true (by omega)
                have b3 : (a - 1 ≤ x + 1) = True := eq_true (by omega)
                have b4 : (0 ≤ a - 1) = True := eq_true (by omega)
                by_cases cb : bt u (x - 1) = 92
                · have e4 : (bt u (x - 1) == 92) = true := by rw [cb]; rfl
                  have HBS : Aside0 (bsn u (x - 1) = 1 + bsn u (x - 2)) := ⟨by
                    have h1 := bsn_step (u := u) (x := x - 1) (by omega) cb
                    rw [show x - 1 - 1 = x - 2 by omega] at h1
                    exact h1⟩
                  have HC34 := Aside0.mk c34
                  obtain ⟨m, hm⟩ := HWX.out
                  subst hm
                  clear c92 c34 cb HWX
                  go_wp2_with fail
                  have hx5 := Aside0.mk hx4
                  clear hx3 hx2 hx4
                  go_loopg [9, 10] u.size (fun kq x9 x10 wr3 => ∃ (n y : Int), x9 = .int .i64 n ∧ x10 = .int .i64 y ∧ Aside0 (a - 1 ≤ y ∧ y < x ∧ (kq : Int) ≥ y ∧ 0 ≤ n ∧ n + y ≤ x) ∧ Aside0 (n + bsn u y = bsn u (x - 2)) ∧ Aside0 (∃ m, wr3 = w.drewN m))
                  case atStart => exact ⟨0, x - 2, rfl, rfl, ⟨by have := HX.out; have := HLX.out; omega⟩, ⟨by omega⟩, ⟨⟨m, rfl⟩⟩⟩
                  case round =>
                    obtain ⟨n, y, rfl, rfl, HY, HN, HWY⟩ := hrel
                    obtain ⟨m2, hm2⟩ := HWY.out
                    subst hm2
                    have hx3 := bt_at u y
                    have w0 : (0 : Int) ≤ y := by have := HY.out; omega
                    have w1 : y ≤ 200000 := by have := HY.out; omega
                    have w2 : (0 : Int) ≤ n := by have := HY.out; omega
                    have w3 : n ≤ 200000 := by have := HY.out; omega
                    have w4 : (y < (u.size : Int)) = True := eq_true (by have := HY.out; have := HLX.out; omega)
                    have fin : n = bsn u (x - 2) → (Int.tmod n 2 = 0 ∧ x ≠ q) ∨ (Int.tmod n 2 = 1 ∧ x = q) := fun hn => by
                      rw [Int.tmod_eq_emod_of_nonneg w2]
                      by_cases e : x = q
                      · have h1 := HE.out.even
                        rw [← e, HBS.out] at h1
                        exact .inr ⟨by omega, e⟩
                      · have h1 := HE.out.odd x (by omega) (by have := HX.out; omega) HC34.out
                        rw [HBS.out] at h1
                        exact .inl ⟨by omega, e⟩
                    by_cases c93 : 0 < y
                    · have HC := Aside0.mk c93
                      have d3 : decide (0 < y) = true := decide_eq_true c93
                      by_cases c94 : bt u y = 92
                      · have d4 : (bt u y == 92) = true := by rw [c94]; rfl
                        have HYA : Aside0 (a ≤ y) := ⟨by
                          by_cases e : y = a - 1
                          · have := HE.out.q0; rw [← e, c94] at this; exact absurd this (by decide)
                          · have := HY.out; omega⟩
                        have HC94 := Aside0.mk c94
                        clear c93 c94 fin
                        go_wp2_with fail
                        go_roundg (y - 1).toNat
                        case measure => have := HY.out; have := HC.out; omega
                        case rel => exact ⟨n + 1, y - 1, (by first | rfl | (congr 1; omega)), (by first | rfl | (congr 1; omega)), ⟨by have := HY.out; have := HYA.out; omega⟩, ⟨by rw [← HN.out, bsn_step (by have := HC.out; omega) HC94.out]; omega⟩, ⟨⟨m2, rfl⟩⟩⟩
                      · have d4 : (bt u y == 92) = false := beq_eq_false_iff_ne.mpr c94
                        have hn : n = bsn u (x - 2) := by have h := HN.out; rw [bsn_stop c94] at h; omega
                        rcases fin hn with ⟨f1, hxq⟩ | ⟨f1, hxq⟩
                        · have HXQ := Aside0.mk hxq
                          clear c93 c94 fin hn hxq
                          go_wp2_with fail
                          go_roundg ((u.size : Int) - (x + 1)).toNat
                          case measure => have := HX.out; have := HLX.out; omega
                          case rel => exact ⟨x + 1, (by first | rfl | (congr 1; omega)), ⟨by have := HX.out; have := HLX.out; have := HXQ.out; omega⟩, ⟨⟨m2, rfl⟩⟩⟩
                        · have HXQ := Aside0.mk hxq
                          clear c93 c94 fin hn hxq
                          go_wp2_with fail
                          go_quiet (fail)
                          go_wp2
                          refine bodyPost_ret (v := .tuple #[.int .i64 (x + 1), .string (u.extract (a - 1).toNat (x + 1).toNat), .bool true, .bool true]) (by simp [results, Tryd.results48, go_sem]) rfl ?_
                          rw [← HXQ.out]
                          exact ⟨true, rfl, _, World.drewN_drewN ..⟩
                    · have d3 : decide (0 < y) = false := decide_eq_false c93
                      have hn : n = bsn u (x - 2) := by have h := HN.out; rw [bsn_low (by omega)] at h; omega
                      rcases fin hn with ⟨f1, hxq⟩ | ⟨f1, hxq⟩
                      · have HXQ := Aside0.mk hxq
                        clear c93 fin hn hxq
                        go_wp2_with fail
                        go_roundg ((u.size : Int) - (x + 1)).toNat
                        case measure => have := HX.out; have := HLX.out; omega
                        case rel => exact ⟨x + 1, (by first | rfl | (congr 1; omega)), ⟨by have := HX.out; have := HLX.out; have := HXQ.out; omega⟩, ⟨⟨m2, rfl⟩⟩⟩
                      · have HXQ := Aside0.mk hxq
                        clear c93 fin hn hxq
                        go_wp2_with fail
                        go_quiet (fail)
                        go_wp2
                        refine bodyPost_ret (v := .tuple #[.int .i64 (x + 1), .string (u.extract (a - 1).toNat (x + 1).toNat), .bool true, .bool true]) (by simp [results, Tryd.results48, go_sem]) rfl ?_
                        rw [← HXQ.out]
                        exact ⟨true, rfl, _, World.drewN_drewN ..⟩
                · have e4 : (bt u (x - 1) == 92) = false := beq_eq_false_iff_ne.mpr cb
                  have hxq : x = q := Decidable.byContradiction fun h => by
                    have := HE.out.odd x (by omega) (by have := HX.out; omega) c34
                    rw [bsn_stop cb] at this
                    omega
                  have HXQ := Aside0.mk hxq
                  obtain ⟨m, hm⟩ := HWX.out
                  subst hm
                  clear c92 c34 cb hxq HWX
                  go_wp2_with fail
                  go_quiet (fail)
                  go_wp2
                  refine bodyPost_ret (v := .tuple #[.int .i64 (x + 1), .string (u.extract (a - 1).toNat (x + 1).toNat), .bool true, .bool true]) (by simp [results, Tryd.results48, go_sem]) rfl ?_
                  rw [← HXQ.out]
                  exact ⟨true, rfl, _, World.drewN_drewN ..⟩
              · have e3 : (bt u x == 34) = false := beq_eq_false_iff_ne.mpr c34
                have hn : x ≠ q := fun e => c34 (by rw [e]; exact HE.out.q)
                have HN := Aside0.mk hn
                clear c92 c34 hn
                go_wp2_with fail
                go_roundg ((u.size : Int) - (x + 1)).toNat
                case measure => have := HX.out; have := HLX.out; omega
                case rel => exact ⟨x + 1, (by first | rfl | (congr 1; omega)), ⟨by have := HX.out; have := HLX.out; have := HN.out; omega⟩, HWX⟩
        · have e2 : (bt u i == 92) = false := beq_eq_false_iff_ne.mpr e92
          have HN := Aside0.mk (And.intro hnq e92)
          clear c92 c34 e92 hnq
          go_wp2_with fail
          go_roundg ((u.size : Int) - (i + 1)).toNat
          case measure => have := HI.out; have := HLT.out; omega
          case rel => exact ⟨i + 1, (by first | rfl | (congr 1; omega)), ⟨by have := HI.out; have := HLT.out; have := HN.out; omega⟩, ⟨by rw [show i + 1 - 1 = i by omega]; exact HN.out.2⟩, HW⟩
end Go.Proofs.YtldfejbmdonaoaaDoor.Ls