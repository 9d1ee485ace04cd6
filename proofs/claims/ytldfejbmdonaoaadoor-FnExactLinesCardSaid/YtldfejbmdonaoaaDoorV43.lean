/- Joined by a program of mine from texts of this claim: Lp. -/
import Derived.Test.YtldfejbmdonaoaaDoorV41
import Derived.Deep.LoopGhost
import Derived.BigQuiet
namespace Go.Proofs.YtldfejbmdonaoaaDoor.Lp
open Go.RowKit YtldfejbmdonaoaaDoorW.PrintWords YtldfejbmdonaoaaDoorW.PrintLast YtldfejbmdonaoaaDoorW.PrintMore Tp Te Nx Sn
set_option linter.unusedVariables false
set_option linter.unusedSimpArgs false
def Part (u : ByteArray) (i n : Int) (w : World) (e : Ending) (w' : World) : Prop := e = .returned (.tuple #[.int .i64 n, .string (u.extract i.toNat n.toNat)]) ∧ ∃ m, w' = w.drewN m
set_option maxRecDepth 100000 in
set_option maxHeartbeats 8000000 in
theorem lit_walk (u : ByteArray) (i n : Int) (hs : (u.size : Int) ≤ 200000) (h0 : 0 ≤ i) (hn1 : i + 1 ≤ n) (hn2 : n ≤ (u.size : Int)) (hgo : ∀ x, i + 1 ≤ x → x < n → 97 ≤ bt u x ∧ bt u x ≤ 122) (hst : n < (u.size : Int) → ¬ (97 ≤ bt u n ∧ bt u n ≤ 122)) (w : World) :
    Calls Tryd.prog 49 #[.string u, .int .i64 i] w (Part u i n w) := by
  have HS := Aside0.mk hs
  have HN := Aside0.mk (And.intro hn1 hn2)
  have HG := Aside0.mk (And.intro hgo hst)
  have i4 : i ≤ 200000 := by omega
  clear hs hn1 hn2 hgo hst
  go_enter Tryd.func49, Tryd.ntmps49
  go_wp2_with fail
  go_loopg [1] u.size (fun kq x1 wr => ∃ (x : Int), x1 = .int .i64 x ∧ Aside0 (i + 1 ≤ x ∧ x ≤ n ∧ (kq : Int) ≥ (u.size : Int) - x) ∧ wr = w)
  case atStart => exact ⟨i + 1, rfl, ⟨by have := HN.out; omega⟩, rfl⟩
  case round =>
    obtain ⟨x, rfl, HX, rfl⟩ := hrel
    have p1 : (0 : Int) ≤ x := by have := HX.out; omega
    have p4 : x ≤ 200000 := by have := HX.out; have := HN.out; have := HS.out; omega
    have p5 : i ≤ x := by have := HX.out; omega
    have hx2 := bt_at u x
    by_cases hlt : x < (u.size : Int)
    · have q1 : (x < (u.size : Int)) = True := eq_true hlt
      have q2 : decide (x < (u.size : Int)) = true := decide_eq_true hlt
      have q3 : (x ≤ (u.size : Int)) = True := eq_true (by omega)
      have HLT := Aside0.mk hlt
      clear hlt
      by_cases hxn : x = n
      · subst hxn
        have hb := HG.out.2 HLT.out
        by_cases c1 : bt u x < 97
        · have d1 : decide (bt u x < 97) = true := decide_eq_true c1
          clear c1 hb
          go_wp2_with fail
          go_quiet (fail)
          go_wp2
          go_ret2
          exact ⟨rfl, _, rfl⟩
        · have d1 : decide (bt u x < 97) = false := decide_eq_false c1
          have d2 : decide (122 < bt u x) = true := decide_eq_true (by omega)
          clear c1 hb
          go_wp2_with fail
          go_quiet (fail)
          go_wp2
          go_ret2
          exact ⟨rfl, _, rfl⟩
      · have hb := HG.out.1 x HX.out.1 (by have := HX.out; omega)
        have d1 : decide (bt u x < 97) = false := decide_eq_false (by omega)
        have d2 : decide (122 < bt u x) = false := decide_eq_false (by omega)
        have HXN := Aside0.mk hxn
        clear hxn hb
        go_wp2_with fail
        go_roundg ((u.size : Int) - (x + 1)).toNat
        case measure => have := HX.out; have := HLT.out; omega
        case rel => exact ⟨x + 1, (by first | rfl | (congr 1; omega)), ⟨by have := HX.out; have := HLT.out; have := HXN.out; omega⟩, rfl⟩
    · have q1 : (x < (u.size : Int)) = False := eq_false hlt
      have q2 : decide (x < (u.size : Int)) = false := decide_eq_false hlt
      have q3 : (i ≤ (u.size : Int)) = True := eq_true (by have := HN.out; omega)
      have hxn : x = n ∧ n = (u.size : Int) := by have := HX.out; have := HN.out; omega
      have HXN := Aside0.mk hxn
      clear hlt hxn
      go_wp2_with fail
      go_quiet (fail)
      go_wp2
      go_ret2
      exact ⟨by show Ending.returned (.tuple #[.int .i64 x, .string (u.extract i.toNat u.size)]) = _; rw [← HXN.out.1, show x.toNat = u.size by have := HXN.out; omega], _, rfl⟩
set_option maxRecDepth 100000 in
set_option maxHeartbeats 8000000 in
theorem num_walk (u : ByteArray) (i n : Int) (hs : (u.size : Int) ≤ 200000) (h0 : 0 ≤ i) (hn1 : i + 1 ≤ n) (hn2 : n ≤ (u.size : Int)) (hgo : ∀ x, i + 1 ≤ x → x < n → ¬ stopc (bt u x)) (hst : n < (u.size : Int) → stopc (bt u n)) (w : World) :
    Calls Tryd.prog 50 #[.string u, .int .i64 i] w (Part u i n w) := by
  have HS := Aside0.mk hs
  have HN := Aside0.mk (And.intro hn1 hn2)
  have HG := Aside0.mk (And.intro hgo hst)
  have i4 : i ≤ 200000 := by omega
  clear hs hn1 hn2 hgo hst
  go_enter Tryd.func50, Tryd.ntmps50
  go_wp2_with fail
  go_loopg [1] u.size (fun kq x1 wr => ∃ (x : Int), x1 = .int .i64 x ∧ Aside0 (i + 1 ≤ x ∧ x ≤ n ∧ (kq : Int) ≥ (u.size : Int) - x) ∧ wr = w)
  case atStart => exact ⟨i + 1, rfl, ⟨by have := HN.out; omega⟩, rfl⟩
  case round =>
    obtain ⟨x, rfl, HX, rfl⟩ := hrel
    have p1 : (0 : Int) ≤ x := by have := HX.out; omega
    have p4 : x ≤ 200000 := by have := HX.out; have := HN.out; have := HS.out; omega
    have p5 : i ≤ x := by have := HX.out; omega
    have hx2 := bt_at u x
    by_cases hlt : x < (u.size : Int)
    · have q1 : (x < (u.size : Int)) = True := eq_true hlt
      have q2 : decide (x < (u.size : Int)) = true := decide_eq_true hlt
      have q3 : (x ≤ (u.size : Int)) = True := eq_true (by omega)
      have HLT := Aside0.mk hlt
      clear hlt
      by_cases hxn : x = n
      · subst hxn
        have hb := HG.out.2 HLT.out
        by_cases c1 : bt u x ≤ 32
        · have d1 : decide (bt u x ≤ 32) = true := decide_eq_true c1
          clear c1 hb
          go_wp2_with fail
          go_quiet (fail)
          go_wp2
          go_ret2
          exact ⟨rfl, _, rfl⟩
        · have hb2 := hb.resolve_left c1
          clear c1 hb
          rcases hb2 with hq | hq | hq
          all_goals
            rw [hq] at hx2
            go_wp2_with fail
            go_quiet (fail)
            go_wp2
            go_ret2
            exact ⟨rfl, _, rfl⟩
      · have hb := HG.out.1 x HX.out.1 (by have := HX.out; omega)
        unfold stopc at hb
        have d1 : decide (bt u x ≤ 32) = false := decide_eq_false (by omega)
        have d2 : (bt u x == 44) = false := beq_eq_false_iff_ne.mpr (by omega)
        have d3 : (bt u x == 93) = false := beq_eq_false_iff_ne.mpr (by omega)
        have d4 : (bt u x == 125) = false := beq_eq_false_iff_ne.mpr (by omega)
        have HXN := Aside0.mk hxn
        clear hxn hb
        go_wp2_with fail
        go_roundg ((u.size : Int) - (x + 1)).toNat
        case measure => have := HX.out; have := HLT.out; omega
        case rel => exact ⟨x + 1, (by first | rfl | (congr 1; omega)), ⟨by have := HX.out; have := HLT.out; have := HXN.out; omega⟩, rfl⟩
    · have q1 : (x < (u.size : Int)) = False := eq_false hlt
      have q2 : decide (x < (u.size : Int)) = false := decide_eq_false hlt
      have q3 : (i ≤ (u.size : Int)) = True := eq_true (by have := HN.out; omega)
      have hxn : x = n ∧ n = (u.size : Int) := by have := HX.out; have := HN.out; omega
      have HXN := Aside0.mk hxn
      clear hlt hxn
      go_wp2_with fail
      go_quiet (fail)
      go_wp2
      go_ret2
      exact ⟨by show Ending.returned (.tuple #[.int .i64 x, .string (u.extract i.toNat u.size)]) = _; rw [← HXN.out.1, show x.toNat = u.size by have := HXN.out; omega], _, rfl⟩
end Go.Proofs.YtldfejbmdonaoaaDoor.Lp