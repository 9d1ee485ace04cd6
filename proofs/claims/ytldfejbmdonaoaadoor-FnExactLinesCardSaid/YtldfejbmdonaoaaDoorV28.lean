/- Joined by a program of mine from texts of this claim: Fr. -/
import Derived.Test.YtldfejbmdonaoaaDoorV26
import Derived.StillTailTactics
import Derived.Scope
namespace Go.Proofs.YtldfejbmdonaoaaDoor.Fr
open Go.RowKit YtldfejbmdonaoaaDoorW.PrintWords YtldfejbmdonaoaaDoorW.PrintLast YtldfejbmdonaoaaDoorW.PrintMore Lo
set_option linter.unusedVariables false
set_option linter.unusedSimpArgs false
def nv (s : ByteArray) (i : Int) : Nat → Int
  | 0 => 0
  | n + 1 => nv s i n * 10 + (bt s (i + n) - 48)
def AllD (s : ByteArray) (i j : Int) : Prop := ∀ x, i ≤ x → x < j → 48 ≤ bt s x ∧ bt s x ≤ 57
theorem nv_bd {s : ByteArray} {i : Int} : ∀ {n : Nat}, AllD s i (i + n) → 0 ≤ nv s i n ∧ nv s i n < 10 ^ n
  | 0, _ => by simp [nv]
  | n + 1, h => by
    have h1 := nv_bd (n := n) (fun x h0 h1 => h x h0 (by omega))
    have h2 := h (i + n) (by omega) (by omega)
    simp only [nv]
    rw [Int.pow_succ]
    omega
theorem p18 {n : Nat} (h : n ≤ 18) : (10 : Int) ^ n ≤ 1000000000000000000 := by
  have := Dm.pow_le h
  exact this
structure IntStr (s : ByteArray) (i0 : Int) : Prop where
  sign : i0 = 0 ∧ bt s 0 ≠ 45 ∧ bt s 0 ≠ 43 ∨ i0 = 1 ∧ bt s 0 = 45
  lt : i0 < (s.size : Int)
  le : (s.size : Int) - i0 ≤ 18
  digs : AllD s i0 (s.size : Int)
structure Ex (s : ByteArray) (i0 i man nd nm : Int) (tc sd sg : Bool) : Prop where
  mk :: (out : i - i0 ≤ 18 → AllD s i0 i → i0 ≤ i ∧ man = nv s i0 (i - i0).toNat ∧ nm = nd ∧ tc = false ∧ sd = false ∧ (i0 < i → sg = true) ∧ nd ≤ i - i0 ∧ (nd = 0 → man = 0))
theorem Ex.zero (s : ByteArray) (i0 : Int) : Ex s i0 i0 0 0 0 false false false :=
  ⟨fun _ _ => ⟨Int.le_refl _, by simp [nv], rfl, rfl, rfl, fun h => by omega, by omega, fun _ => rfl⟩⟩
theorem Ex.none {s : ByteArray} {i0 i man nd nm : Int} {tc sd sg : Bool} (h : i0 ≤ i) (hb : ¬ (48 ≤ bt s i ∧ bt s i ≤ 57)) {i' : Int} (hi : i + 1 = i') : Ex s i0 i' man nd nm tc sd sg :=
  ⟨fun _ h2 => absurd (h2 i h (by omega)) hb⟩
theorem nv_next {s : ByteArray} {i0 i : Int} (h : i0 ≤ i) : nv s i0 (i + 1 - i0).toNat = nv s i0 (i - i0).toNat * 10 + (bt s i - 48) := by
  rw [show (i + 1 - i0).toNat = (i - i0).toNat + 1 by omega, nv, show i0 + ((i - i0).toNat : Int) = i by omega]
theorem Ex.skip {s : ByteArray} {i0 i man nd nm : Int} {tc sd sg : Bool} (h : Ex s i0 i man nd nm tc sd sg) (h0 : i0 ≤ i) (hc : bt s i = 48) (hn : nd = 0) : Ex s i0 (i + 1) man nd nm tc sd true := by
  refine ⟨fun h1 h2 => ?_⟩
  obtain ⟨a1, a2, a3, a4, a5, a6, a7, a8⟩ := h.out (by omega) (fun x hx hy => h2 x hx (by omega))
  refine ⟨by omega, ?_, a3, a4, a5, fun _ => rfl, by omega, a8⟩
  rw [nv_next h0, ← a2, a8 hn]
  omega
theorem Ex.step {s : ByteArray} {i0 i man nd nm : Int} {tc sd sg : Bool} (h : Ex s i0 i man nd nm tc sd sg) (h0 : i0 ≤ i) (hn : 0 ≤ nd) : Ex s i0 (i + 1) (IntKind.u64.wrap (IntKind.u64.wrap (man * 10) + (bt s i - 48))) (nd + 1) (nm + 1) tc sd true := by
  refine ⟨fun h1 h2 => ?_⟩
  have hd : AllD s i0 i := fun x hx hy => h2 x hx (by omega)
  obtain ⟨a1, a2, a3, a4, a5, a6, a7, a8⟩ := h.out (by omega) hd
  have hc := h2 i h0 (by omega)
  have hb := nv_bd (s := s) (i := i0) (n := (i - i0).toNat) (by rw [show i0 + ((i - i0).toNat : Int) = i by omega]; exact hd)
  have hp := p18 (n := (i - i0).toNat) (by omega)
  have hp2 : nv s i0 (i - i0).toNat < 100000000000000000 := by
    have h3 : (10 : Int) ^ (i - i0).toNat ≤ 10 ^ 17 := Dm.pow_le (by omega)
    omega
  refine ⟨by omega, ?_, by omega, a4, a5, fun _ => rfl, by omega, fun e => by omega⟩
  rw [nv_next h0, Dr.wrap_in (x := man * 10) (by omega) (by omega), Dr.wrap_in (by omega) (by omega), a2]
theorem Ex.over {s : ByteArray} {i0 i man nd nm : Int} {tc tc' sd sg : Bool} (h : Ex s i0 i man nd nm tc sd sg) (h0 : i0 ≤ i) (hn : 19 ≤ nm) : Ex s i0 (i + 1) man (nd + 1) nm tc' sd true := by
  refine ⟨fun h1 h2 => ?_⟩
  obtain ⟨a1, a2, a3, a4, a5, a6, a7, a8⟩ := h.out (by omega) (fun x hx hy => h2 x hx (by omega))
  omega
structure RF (s : ByteArray) (man exp : Int) (ng tc : Bool) (i : Int) (ok : Bool) : Prop where
  m0 : 0 ≤ man
  m1 : man ≤ 18446744073709551615
  i0 : 0 ≤ i
  i1 : i ≤ (s.size : Int)
  one : ok = true → 1 ≤ i
  exact_ : ∀ j, IntStr s j → ok = true ∧ i = (s.size : Int) ∧ man = nv s j ((s.size : Int) - j).toNat ∧ exp = 0 ∧ tc = false ∧ (ng = true ↔ j = 1)
def RPost (s : ByteArray) (w : World) (e : Ending) (w' : World) : Prop := ∃ man exp ng tc i ok, e = .returned (.tuple #[.int .u64 man, .int .i64 exp, .bool ng, .bool tc, .bool false, .int .i64 i, .bool ok]) ∧ RF s man exp ng tc i ok ∧ Drawn0 w w'
structure Sg (s : ByteArray) (i0 : Int) (ng : Bool) : Prop where
  lo : 0 ≤ i0
  hi : i0 ≤ 1
  is : ∀ j, IntStr s j → j = i0 ∧ (ng = true ↔ j = 1)
structure Hd (s : ByteArray) (i0 : Int) (i man nd nm : Int) (tc sd sg : Bool) : Prop where
  i1 : i0 ≤ i
  i2 : i ≤ (s.size : Int)
  m0 : 0 ≤ man
  m1 : man ≤ 18446744073709551615
  n0 : 0 ≤ nd
  n1 : nd ≤ i
  k0 : 0 ≤ nm
  k1 : nm ≤ 19
  one : sg = true → 1 ≤ i
  ex : Ex s i0 i man nd nm tc sd sg
theorem RF.bad {s : ByteArray} {i0 i man nd nm exp : Int} {tc sd sg ng ok : Bool} {i' : Int} (hS : Sg s i0 ng) (h : Hd s i0 i man nd nm tc sd sg) (hb : ∀ j, IntStr s j → False) (h0 : 0 ≤ i') (h1 : i' ≤ (s.size : Int)) (hk : ok = true → 1 ≤ i') : RF s man exp ng tc i' ok :=
  ⟨h.m0, h.m1, h0, h1, hk, fun j hj => (hb j hj).elim⟩
theorem not_int {s : ByteArray} {i0 i : Int} {ng : Bool} (hS : Sg s i0 ng) (h0 : i0 ≤ i) (h1 : i < (s.size : Int)) (hb : ¬ (48 ≤ bt s i ∧ bt s i ≤ 57)) : ∀ j, IntStr s j → False := fun j hj => by
  obtain ⟨rfl, _⟩ := hS.is j hj
  exact hb (hj.digs i h0 h1)
theorem results_tmp7 {fn : Func} {t1 t2 t3 t4 t5 t6 t7 : Tmp} (h : fn.results = #[.tmp t1, .tmp t2, .tmp t3, .tmp t4, .tmp t5, .tmp t6, .tmp t7]) (tmps : Array Value) (P : Program) (w : World) :
    (results fn tmps).run P w = .ok (.tuple #[tmps.getD t1 undef, tmps.getD t2 undef, tmps.getD t3 undef, tmps.getD t4 undef, tmps.getD t5 undef, tmps.getD t6 undef, tmps.getD t7 undef]) w := by simp [results, h]
theorem RF.fin {s : ByteArray} {i0 i man nd nm dp : Int} {tc sd ng : Bool} (hS : Sg s i0 ng) (h : Hd s i0 i man nd nm tc sd true) (hi : i = (s.size : Int)) (hdp : sd = false → dp = nd) (exp : Int) (hexp : dp = nm → exp = 0) : RF s man exp ng tc i true := by
  refine ⟨h.m0, h.m1, by have := h.i1; have := hS.lo; omega, by omega, fun _ => h.one rfl, fun j hj => ?_⟩
  obtain ⟨rfl, hng⟩ := hS.is j hj
  subst hi
  obtain ⟨_, a2, a3, a4, a5, _, _, _⟩ := h.ex.out hj.le hj.digs
  exact ⟨rfl, rfl, a2, hexp (by rw [hdp a5, a3]), a4, hng⟩
theorem fin_no {s : ByteArray} {i0 i man nd nm : Int} {tc sd ng : Bool} (hS : Sg s i0 ng) (h : Hd s i0 i man nd nm tc sd false) (hst : i < (s.size : Int) → ¬ (48 ≤ bt s i ∧ bt s i ≤ 57)) : ∀ j, IntStr s j → False := fun j hj => by
  obtain ⟨rfl, _⟩ := hS.is j hj
  have h1 := h.i1
  have h2 := h.i2
  rcases Int.lt_or_le i (s.size : Int) with h3 | h3
  · exact hst h3 (hj.digs i h1 h3)
  · obtain ⟨_, _, _, _, _, a6, _⟩ := h.ex.out (by have := hj.le; omega) (fun x hx hy => hj.digs x hx (by omega))
    exact absurd (a6 (by have := hj.lt; omega)) (by decide)
set_option maxRecDepth 100000 in
set_option maxHeartbeats 8000000 in
theorem read_walk (s : ByteArray) (w : World) (hz : 0 < s.size) (hs : (s.size : Int) ≤ 70000) (hu : ∀ x, bt s x ≠ 95) (hx : ∀ x, (bits BinOp.or IntKind.u8 (bt s x) 32 == 120) = false) :
    Calls Tryd.prog 71 #[.string s] w (RPost s w) := by
  have HS := Aside0.mk hs
  have HU := Aside0.mk hu
  have HX := Aside0.mk hx
  have d1 : decide (s = ByteArray.empty) = false := decide_eq_false (by rintro rfl; exact absurd hz (by decide))
  have d1b : (s = ByteArray.empty) = False := eq_false (by rintro rfl; exact absurd hz (by decide))
  have hx0 := Bt.bt_at0 s
  have HZ := Aside0.mk hz
  clear hs hu hx
  go_enter Tryd.func71, Tryd.ntmps71
  go_wp2_with fail
  refine wp_scope_straight ?_
  go_upto_block 0 with (fail)
  go_cut [4, 7] (fun x4 x7 wc => ∃ (ng : Bool) (i : Int), x4 = .bool ng ∧ x7 = .int .i64 i ∧ Aside0 (Sg s i ng) ∧ wc = w)
  case first => as_aux_lemma =>
    by_cases e1 : bt s 0 = 43
    · have d2 : (bt s 0 == 43) = true := beq_iff_eq.mpr e1
      have HG : Aside0 (Sg s 1 false) := ⟨⟨by omega, by omega, fun j hj => by rcases hj.sign with h | h <;> omega⟩⟩
      clear e1
      go_wp2
      go_meet
      case rel => exact ⟨_, _, rfl, rfl, HG, rfl⟩
    · have d2 : (bt s 0 == 43) = false := beq_eq_false_iff_ne.mpr e1
      by_cases e2 : bt s 0 = 45
      · have d3 : (bt s 0 == 45) = true := beq_iff_eq.mpr e2
        have HG : Aside0 (Sg s 1 true) := ⟨⟨by omega, by omega, fun j hj => by rcases hj.sign with h | h <;> simp <;> omega⟩⟩
        clear e1 e2
        go_wp2
        go_meet
        case rel => exact ⟨_, _, rfl, rfl, HG, rfl⟩
      · have d3 : (bt s 0 == 45) = false := beq_eq_false_iff_ne.mpr e2
        have HG : Aside0 (Sg s 0 false) := ⟨⟨by omega, by omega, fun j hj => by rcases hj.sign with h | h <;> simp <;> omega⟩⟩
        clear e1 e2
        go_wp2
        go_meet
        case rel => exact ⟨_, _, rfl, rfl, HG, rfl⟩
  case rest => as_aux_lemma =>
    clear d1 d1b hx0 hz
    obtain ⟨ng, i0, rfl, rfl, HG, rfl⟩ := hcut
    have p1 : 0 ≤ i0 := HG.out.lo
    have p2 : i0 ≤ 1 := HG.out.hi
    have HW := Aside0.mk (Drawn0.refl wc)
    go_upto_region 12 with (fail)
    go_cut [54] (fun x54 wc1 => x54 = .bool false ∧ wc1 = wc)
    case first => as_aux_lemma =>
      have h19 := bt_at s i0
      have h20 := bt_at s (i0 + 1)
      by_cases h2 : i0 + 2 < (s.size : Int)
      · have d2 : decide (i0 + 2 < (s.size : Int)) = true := decide_eq_true h2
        have q1 : (i0 < (s.size : Int)) = True := eq_true (by omega)
        have q2 : (i0 + 1 < (s.size : Int)) = True := eq_true (by omega)
        have d4 := HX.out (i0 + 1)
        clear h2
        by_cases h3 : bt s i0 = 48
        · have d3 : (bt s i0 == 48) = true := beq_iff_eq.mpr h3
          clear h3
          go_wp2_with (go_at_call 84; refine (lower_walk _ _).mono ?_; rintro e w5 ⟨rfl, rfl⟩)
          go_meet
          case rel => exact ⟨rfl, rfl⟩
        · have d3 : (bt s i0 == 48) = false := beq_eq_false_iff_ne.mpr h3
          clear h3
          go_wp2_with (go_at_call 84; refine (lower_walk _ _).mono ?_; rintro e w5 ⟨rfl, rfl⟩)
          go_meet
          case rel => exact ⟨rfl, rfl⟩
      · have d2 : decide (i0 + 2 < (s.size : Int)) = false := decide_eq_false h2
        clear h2
        go_wp2_with (go_at_call 84; refine (lower_walk _ _).mono ?_; rintro e w5 ⟨rfl, rfl⟩)
        go_meet
        case rel => exact ⟨rfl, rfl⟩
    case rest => as_aux_lemma =>
      obtain ⟨rfl, rfl⟩ := hcut
      go_wp2_with fail
      refine wp_label ?_
      go_upto_block 1 with (fail)
      go_cut [2, 5, 7, 9, 13, 14, 15, 16, 17] (fun x2 x5 x7 x9 x13 x14 x15 x16 x17 wc2 => ∃ (man : Int) (tc : Bool) (i : Int) (sd sg : Bool) (nd nm dp : Int), x2 = .int .u64 man ∧ x5 = .bool tc ∧ x7 = .int .i64 i ∧ x9 = .bool false ∧ x13 = .bool sd ∧ x14 = .bool sg ∧ x15 = .int .i64 nd ∧ x16 = .int .i64 nm ∧ x17 = .int .i64 dp ∧ Aside0 (Hd s i0 i man nd nm tc sd sg ∧ (i < (s.size : Int) → ¬ (48 ≤ bt s i ∧ bt s i ≤ 57))) ∧ wc2 = wc)
      case first => as_aux_lemma =>
        go_wp2_with fail
        go_loopg [2, 5, 7, 9, 13, 14, 15, 16, 17] 70001 (fun kq x2 x5 x7 x9 x13 x14 x15 x16 x17 wr => ∃ (man : Int) (tc : Bool) (i : Int) (sd sg : Bool) (nd nm dp : Int), x2 = .int .u64 man ∧ x5 = .bool tc ∧ x7 = .int .i64 i ∧ x9 = .bool false ∧ x13 = .bool sd ∧ x14 = .bool sg ∧ x15 = .int .i64 nd ∧ x16 = .int .i64 nm ∧ x17 = .int .i64 dp ∧ Aside0 (Hd s i0 i man nd nm tc sd sg ∧ (s.size : Int) < i + kq) ∧ wr = wc)
        case atStart => exact ⟨0, false, i0, false, false, 0, 0, 0, rfl, rfl, rfl, rfl, rfl, rfl, rfl, rfl, rfl, ⟨⟨by omega, by have := HZ.out; omega, by omega, by omega, by omega, by omega, by omega, by omega, fun h => absurd h (by decide), Ex.zero s i0⟩, by have := HS.out; omega⟩, rfl⟩
        case round => as_aux_lemma =>
          obtain ⟨man, tc, i, sd, sg, nd, nm, dp, rfl, rfl, rfl, rfl, rfl, rfl, rfl, rfl, rfl, HR, rfl⟩ := hrel
          have HH := Aside0.mk HR.out.1
          have r1 : 0 ≤ i := by have := HH.out.i1; omega
          have r2 : i ≤ 70000 := by have := HH.out.i2; have := HS.out; omega
          have r3 : 0 ≤ man := HH.out.m0
          have r4 : man ≤ 18446744073709551615 := HH.out.m1
          have r5 : 0 ≤ nd := HH.out.n0
          have r6 : nd ≤ 70000 := by have := HH.out.n1; omega
          have r7 : 0 ≤ nm := HH.out.k0
          have r8 : nm ≤ 19 := HH.out.k1
          by_cases hi : i < (s.size : Int)
          · have d1 : decide (i < (s.size : Int)) = true := decide_eq_true hi
            have q1 : (i < (s.size : Int)) = True := eq_true hi
            have hx := bt_at s i
            have d2 : (bt s i == 95) = false := beq_eq_false_iff_ne.mpr (HU.out i)
            have HI := Aside0.mk hi
            have hr := bt_range s i
            clear hi
            by_cases e46 : bt s i = 46
            · have d3 : (bt s i == 46) = true := beq_iff_eq.mpr e46
              have HN := Aside0.mk (show ¬ (48 ≤ bt s i ∧ bt s i ≤ 57) by omega)
              clear e46
              cases sd with
              | true =>
                go_wp2
                go_meet
                case rel => exact ⟨_, _, _, _, _, _, _, _, rfl, rfl, rfl, rfl, rfl, rfl, rfl, rfl, rfl, ⟨HH.out, fun _ => HN.out⟩, rfl⟩
              | false =>
                go_wp2
                go_roundg (gk - 1)
                case measure => have := HR.out.2; have := HI.out; omega
                case rel => exact ⟨_, _, i + 1, true, sg, _, _, _, rfl, rfl, rfl, rfl, rfl, rfl, rfl, rfl, rfl, ⟨⟨by have := HH.out.i1; omega, by have := HI.out; omega, r3, r4, r5, by have := HH.out.n1; omega, r7, r8, fun h => by omega, Ex.none HH.out.i1 HN.out rfl⟩, by have := HR.out.2; omega⟩, rfl⟩
            · have d3 : (bt s i == 46) = false := beq_eq_false_iff_ne.mpr e46
              clear e46
              by_cases h3 : 48 ≤ bt s i
              · have d4 : decide (48 ≤ bt s i) = true := decide_eq_true h3
                by_cases h4 : bt s i ≤ 57
                · have d5 : decide (bt s i ≤ 57) = true := decide_eq_true h4
                  have HDG := Aside0.mk (And.intro h3 h4)
                  by_cases e0 : bt s i = 48 ∧ nd = 0
                  · have d6 : (bt s i == 48) = true := beq_iff_eq.mpr e0.1
                    have d7 : (nd == 0) = true := beq_iff_eq.mpr e0.2
                    have HE := Aside0.mk e0
                    clear e0 h3 h4
                    go_wp2
                    go_roundg (gk - 1)
                    case measure => have := HR.out.2; have := HI.out; omega
                    case rel => exact ⟨_, _, i + 1, sd, true, _, _, _, rfl, rfl, rfl, rfl, rfl, rfl, rfl, rfl, rfl, ⟨⟨by have := HH.out.i1; omega, by have := HI.out; omega, r3, r4, r5, by have := HH.out.n1; omega, r7, r8, fun h => by omega, HH.out.ex.skip HH.out.i1 HE.out.1 HE.out.2⟩, by have := HR.out.2; omega⟩, rfl⟩
                  · have d67 : (bt s i == 48) = true ∧ (nd == 0) = false ∨ (bt s i == 48) = false := by
                      by_cases e : bt s i = 48
                      · exact .inl ⟨beq_iff_eq.mpr e, beq_eq_false_iff_ne.mpr fun h => e0 ⟨e, h⟩⟩
                      · exact .inr (beq_eq_false_iff_ne.mpr e)
                    have d9 : (bt s i != 48) = !(bt s i == 48) := rfl
                    clear e0
                    rcases d67 with ⟨d6, d7⟩ | d6
                    all_goals
                      rw [d6] at d9
                      by_cases h19 : nm < 19
                      · have d8 : decide (nm < 19) = true := decide_eq_true h19
                        go_wp2
                        go_roundg (gk - 1)
                        case measure => have := HR.out.2; have := HI.out; omega
                        case rel => exact ⟨_, _, i + 1, sd, true, _, _, _, rfl, rfl, rfl, rfl, rfl, rfl, rfl, rfl, rfl, ⟨⟨by have := HH.out.i1; omega, by have := HI.out; omega, (Dt.u64_nonneg _).1, (Dt.u64_nonneg _).2, by omega, by have := HH.out.n1; omega, by omega, by omega, fun h => by omega, HH.out.ex.step HH.out.i1 r5⟩, by have := HR.out.2; omega⟩, rfl⟩
                      · have d8 : decide (nm < 19) = false := decide_eq_false h19
                        have HG9 := Aside0.mk (Int.not_lt.mp h19)
                        clear h19
                        go_wp2
                        go_roundg (gk - 1)
                        case measure => have := HR.out.2; have := HI.out; omega
                        case rel => exact ⟨_, _, i + 1, sd, true, _, _, _, rfl, rfl, rfl, rfl, rfl, rfl, rfl, rfl, rfl, ⟨⟨by have := HH.out.i1; omega, by have := HI.out; omega, r3, r4, by omega, by have := HH.out.n1; omega, r7, r8, fun h => by omega, HH.out.ex.over HH.out.i1 HG9.out⟩, by have := HR.out.2; omega⟩, rfl⟩
                · have d5 : decide (bt s i ≤ 57) = false := decide_eq_false h4
                  have HN := Aside0.mk (show ¬ (48 ≤ bt s i ∧ bt s i ≤ 57) by omega)
                  clear h3 h4
                  go_wp2
                  go_meet
                  case rel => exact ⟨_, _, _, _, _, _, _, _, rfl, rfl, rfl, rfl, rfl, rfl, rfl, rfl, rfl, ⟨HH.out, fun _ => HN.out⟩, rfl⟩
              · have d4 : decide (48 ≤ bt s i) = false := decide_eq_false h3
                have HN := Aside0.mk (show ¬ (48 ≤ bt s i ∧ bt s i ≤ 57) by omega)
                clear h3
                go_wp2
                go_meet
                case rel => exact ⟨_, _, _, _, _, _, _, _, rfl, rfl, rfl, rfl, rfl, rfl, rfl, rfl, rfl, ⟨HH.out, fun _ => HN.out⟩, rfl⟩
          · have d1 : decide (i < (s.size : Int)) = false := decide_eq_false hi
            have HN := Aside0.mk hi
            clear hi
            go_wp2
            go_meet
            case rel => exact ⟨_, _, _, _, _, _, _, _, rfl, rfl, rfl, rfl, rfl, rfl, rfl, rfl, rfl, ⟨HH.out, fun h => absurd h (Int.not_lt.mpr HN.out)⟩, rfl⟩
      case rest => as_aux_lemma =>
        obtain ⟨man, tc, i, sd, sg, nd, nm, dp, rfl, rfl, rfl, rfl, rfl, rfl, rfl, rfl, rfl, HR, rfl⟩ := hcut
        have HH := Aside0.mk HR.out.1
        have HST := Aside0.mk HR.out.2
        have r1 : 0 ≤ i := by have := HH.out.i1; omega
        have r2 : i ≤ 70000 := by have := HH.out.i2; have := HS.out; omega
        clear HR
        cases sg with
        | false =>
          have HNO := Aside0.mk (fin_no HG.out HH.out HST.out)
          go_wp2
          simp only [Exit.noGoto]
          refine bodyPost_ret (results_tmp7 rfl _ _ _) rfl ?_
          exact ⟨_, _, _, _, _, _, rfl, RF.bad HG.out HH.out HNO.out r1 HH.out.i2 (fun h => absurd h (by decide)), Drawn0.refl _⟩
        | true =>
          go_upto_if 142 with (fail)
          go_cut [17] (fun x17 wc3 => ∃ dp : Int, x17 = .int .i64 dp ∧ Aside0 (sd = false → dp = nd) ∧ wc3 = wc)
          case first => as_aux_lemma =>
            cases sd with
            | false =>
              go_wp2
              go_meet
              case rel => exact ⟨_, rfl, ⟨fun _ => rfl⟩, rfl⟩
            | true =>
              go_wp2
              go_meet
              case rel => exact ⟨_, rfl, ⟨fun h => absurd h (by decide)⟩, rfl⟩
          case rest => as_aux_lemma =>
            obtain ⟨dp, rfl, HDP, rfl⟩ := hcut
            have r1 : 0 ≤ i := by have := HH.out.i1; omega
            have r2 : i ≤ 70000 := by have := HH.out.i2; have := HS.out; omega
            by_cases hi : i < (s.size : Int)
            · have HNO := Aside0.mk (not_int HG.out HH.out.i1 hi (HST.out hi))
              have d1 : decide (i < (s.size : Int)) = true := decide_eq_true hi
              have q1 : (i < (s.size : Int)) = True := eq_true hi
              have hx := bt_at s i
              have HI := Aside0.mk hi
              clear hi
              cases hlow : (bits BinOp.or IntKind.u8 (bt s i) 32 == 101)
              · cases hm : (man != 0)
                all_goals
                  go_wp2_with (go_at_call 84; refine (lower_walk _ _).mono ?_; rintro e w5 ⟨rfl, rfl⟩)
                  simp only [Exit.noGoto]
                  refine bodyPost_ret (results_tmp7 rfl _ _ _) rfl ?_
                  exact ⟨_, _, _, _, _, _, rfl, RF.bad HG.out HH.out HNO.out r1 HH.out.i2 (fun _ => HH.out.one rfl), Drawn0.refl _⟩
              · by_cases h2 : i + 1 ≥ (s.size : Int)
                · have d2 : decide (i + 1 ≥ (s.size : Int)) = true := decide_eq_true h2
                  clear h2
                  go_wp2_with (go_at_call 84; refine (lower_walk _ _).mono ?_; rintro e w5 ⟨rfl, rfl⟩)
                  simp only [Exit.noGoto]
                  refine bodyPost_ret (results_tmp7 rfl _ _ _) rfl ?_
                  exact ⟨_, _, _, _, _, _, rfl, RF.bad HG.out HH.out HNO.out (by omega) (by have := HI.out; omega) (fun h => absurd h (by decide)), Drawn0.refl _⟩
                · have d2 : decide (i + 1 ≥ (s.size : Int)) = false := decide_eq_false h2
                  have q2 : (i + 1 < (s.size : Int)) = True := eq_true (by omega)
                  have hx2 := bt_at s (i + 1)
                  have HI2 := Aside0.mk (Int.not_le.mp h2)
                  clear h2
                  go_upto_block 4 with (go_at_call 84; refine (lower_walk _ _).mono ?_; rintro e w5 ⟨rfl, rfl⟩)
                  go_cut [7, 19] (fun x7 x19 wc4 => ∃ j es : Int, x7 = .int .i64 j ∧ x19 = .int .i64 es ∧ Aside0 (1 ≤ j ∧ j ≤ (s.size : Int)) ∧ wc4 = wc)
                  case first => as_aux_lemma =>
                    by_cases e1 : bt s (i + 1) = 43
                    · have d3 : (bt s (i + 1) == 43) = true := beq_iff_eq.mpr e1
                      clear e1
                      go_wp2
                      go_meet
                      case rel => exact ⟨_, _, rfl, rfl, ⟨by omega, by have := HI2.out; omega⟩, rfl⟩
                    · have d3 : (bt s (i + 1) == 43) = false := beq_eq_false_iff_ne.mpr e1
                      by_cases e2 : bt s (i + 1) = 45
                      · have d4 : (bt s (i + 1) == 45) = true := beq_iff_eq.mpr e2
                        clear e1 e2
                        go_wp2
                        go_meet
                        case rel => exact ⟨_, _, rfl, rfl, ⟨by omega, by have := HI2.out; omega⟩, rfl⟩
                      · have d4 : (bt s (i + 1) == 45) = false := beq_eq_false_iff_ne.mpr e2
                        clear e1 e2
                        go_wp2
                        go_meet
                        case rel => exact ⟨_, _, rfl, rfl, ⟨by omega, by have := HI2.out; omega⟩, rfl⟩
                  case rest => as_aux_lemma =>
                    clear HI HI2 d1 d2 q1 q2 hx hx2 hlow r1 r2
                    obtain ⟨j, es, rfl, rfl, HR2, rfl⟩ := hcut
                    have r1 : 0 ≤ j := by have := HR2.out; omega
                    have r2 : j ≤ 70000 := by have := HR2.out; have := HS.out; omega
                    by_cases hj : j < (s.size : Int)
                    · have d1 : decide (j ≥ (s.size : Int)) = false := decide_eq_false (by omega)
                      have q1 : (j < (s.size : Int)) = True := eq_true hj
                      have hx := bt_at s j
                      by_cases h3 : bt s j < 48
                      · have d2 : decide (bt s j < 48) = true := decide_eq_true h3
                        clear hj h3
                        go_wp2
                        simp only [Exit.noGoto]
                        refine bodyPost_ret (results_tmp7 rfl _ _ _) rfl ?_
                        exact ⟨_, _, _, _, _, _, rfl, RF.bad HG.out HH.out HNO.out (by omega) HR2.out.2 (fun h => absurd h (by decide)), Drawn0.refl _⟩
                      have d2 : decide (bt s j < 48) = false := decide_eq_false h3
                      by_cases h4 : bt s j > 57
                      · have d3 : decide (bt s j > 57) = true := decide_eq_true h4
                        clear hj h3 h4
                        go_wp2
                        simp only [Exit.noGoto]
                        refine bodyPost_ret (results_tmp7 rfl _ _ _) rfl ?_
                        exact ⟨_, _, _, _, _, _, rfl, RF.bad HG.out HH.out HNO.out (by omega) HR2.out.2 (fun h => absurd h (by decide)), Drawn0.refl _⟩
                      have d3 : decide (bt s j > 57) = false := decide_eq_false h4
                      clear hj h3 h4
                      go_wp2_with fail
                      go_loopg [7, 9, 20] 70001 (fun kq x7 x9 x20 wr => ∃ j e : Int, x7 = .int .i64 j ∧ x9 = .bool false ∧ x20 = .int .i64 e ∧ Aside0 (1 ≤ j ∧ j ≤ (s.size : Int) ∧ (s.size : Int) < j + kq) ∧ wr = wc)
                      case atStart => exact ⟨j, 0, rfl, rfl, rfl, ⟨HR2.out.1, HR2.out.2, by have := HR2.out; have := HS.out; omega⟩, rfl⟩
                      case round =>
                        clear HR2 d1 d2 d3 q1 hx r1 r2
                        obtain ⟨j, e, rfl, rfl, rfl, HR2, rfl⟩ := hrel
                        have r1 : 0 ≤ j := by have := HR2.out.1; omega
                        have r2 : j ≤ 70000 := by have := HR2.out; have := HS.out; omega
                        by_cases hj : j < (s.size : Int)
                        · have d1 : decide (j < (s.size : Int)) = true := decide_eq_true hj
                          have q1 : (j < (s.size : Int)) = True := eq_true hj
                          have hx := bt_at s j
                          have d2 : (bt s j == 95) = false := beq_eq_false_iff_ne.mpr (HU.out j)
                          have HJ := Aside0.mk hj
                          by_cases h3 : 48 ≤ bt s j
                          · have d3 : decide (48 ≤ bt s j) = true := decide_eq_true h3
                            by_cases h4 : bt s j ≤ 57
                            · have d4 : decide (bt s j ≤ 57) = true := decide_eq_true h4
                              clear hj h3 h4
                              by_cases h5 : e < 10000
                              · have d5 : decide (e < 10000) = true := decide_eq_true h5
                                clear h5
                                go_wp2
                                go_roundg (gk - 1)
                                case measure => have := HR2.out; have := HJ.out; omega
                                case rel => exact ⟨_, _, rfl, rfl, rfl, ⟨by have := HR2.out.1; omega, by have := HJ.out; omega, by have := HR2.out; omega⟩, rfl⟩
                              · have d5 : decide (e < 10000) = false := decide_eq_false h5
                                clear h5
                                go_wp2
                                go_roundg (gk - 1)
                                case measure => have := HR2.out; have := HJ.out; omega
                                case rel => exact ⟨_, _, rfl, rfl, rfl, ⟨by have := HR2.out.1; omega, by have := HJ.out; omega, by have := HR2.out; omega⟩, rfl⟩
                            · have d4 : decide (bt s j ≤ 57) = false := decide_eq_false h4
                              clear hj h3 h4
                              cases hm : (man != 0)
                              all_goals
                                go_wp2
                                simp only [Exit.noGoto]
                                refine bodyPost_ret (results_tmp7 rfl _ _ _) rfl ?_
                                exact ⟨_, _, _, _, _, _, rfl, RF.bad HG.out HH.out HNO.out (by omega) HR2.out.2.1 (fun _ => HR2.out.1), Drawn0.refl _⟩
                          · have d3 : decide (48 ≤ bt s j) = false := decide_eq_false h3
                            clear hj h3
                            cases hm : (man != 0)
                            all_goals
                              go_wp2
                              simp only [Exit.noGoto]
                              refine bodyPost_ret (results_tmp7 rfl _ _ _) rfl ?_
                              exact ⟨_, _, _, _, _, _, rfl, RF.bad HG.out HH.out HNO.out (by omega) HR2.out.2.1 (fun _ => HR2.out.1), Drawn0.refl _⟩
                        · have d1 : decide (j < (s.size : Int)) = false := decide_eq_false hj
                          clear hj
                          cases hm : (man != 0)
                          all_goals
                            go_wp2
                            simp only [Exit.noGoto]
                            refine bodyPost_ret (results_tmp7 rfl _ _ _) rfl ?_
                            exact ⟨_, _, _, _, _, _, rfl, RF.bad HG.out HH.out HNO.out (by omega) HR2.out.2.1 (fun _ => HR2.out.1), Drawn0.refl _⟩
                    · have d1 : decide (j ≥ (s.size : Int)) = true := decide_eq_true (by omega)
                      clear hj
                      go_wp2
                      simp only [Exit.noGoto]
                      refine bodyPost_ret (results_tmp7 rfl _ _ _) rfl ?_
                      exact ⟨_, _, _, _, _, _, rfl, RF.bad HG.out HH.out HNO.out (by omega) HR2.out.2 (fun h => absurd h (by decide)), Drawn0.refl _⟩
            · have d1 : decide (i < (s.size : Int)) = false := decide_eq_false hi
              have HF := Aside0.mk (RF.fin HG.out HH.out (by have := HH.out.i2; omega) HDP.out)
              clear hi
              cases hm : (man != 0)
              · go_wp2
                simp only [Exit.noGoto]
                refine bodyPost_ret (results_tmp7 rfl _ _ _) rfl ?_
                exact ⟨_, _, _, _, _, _, rfl, HF.out 0 (fun _ => rfl), Drawn0.refl _⟩
              · go_wp2
                simp only [Exit.noGoto]
                refine bodyPost_ret (results_tmp7 rfl _ _ _) rfl ?_
                exact ⟨_, _, _, _, _, _, rfl, HF.out _ (fun h => by rw [h, Int.sub_self]; unfold wrap64; omega), Drawn0.refl _⟩
end Go.Proofs.YtldfejbmdonaoaaDoor.Fr