/- Joined by a program of mine from texts of this claim: Dr. -/
import Derived.Test.YtldfejbmdonaoaaDoorV20
import Derived.Deep.CutBlock
import Derived.Laws.Bits64
import Derived.Laws.BitsLemmas
import Derived.Deep.DeepCutAuto
namespace Go.Proofs.YtldfejbmdonaoaaDoor.Dr
open Go.RowKit YtldfejbmdonaoaaDoorW.PrintWords YtldfejbmdonaoaaDoorW.PrintLast YtldfejbmdonaoaaDoorW.PrintMore Dm Dw
set_option linter.unusedVariables false
set_option linter.unusedSimpArgs false
theorem wrap_in {x : Int} (h0 : 0 ≤ x) (h1 : x ≤ 18446744073709551615) : IntKind.u64.wrap x = x := by
  simp [IntKind.wrap, IntKind.signed, IntKind.bits]
  omega
structure RightS (w0 w' : World) (b : Nat) (f : Nat → Int) (dp : Int) (ng : Bool) : Prop where
  mk :: (out : ∃ f' nd' dp' tr', Dc w' b f' nd' dp' ng tr' ∧ Digs f' nd'.toNat ∧ 49 ≤ f' 0 ∧ 1 ≤ nd' ∧ nd' ≤ 800 ∧ dp' ≤ dp ∧ dp - 30 ≤ dp' ∧ (dp' = dp → f' 0 < f 0) ∧ Below b w0 w')
structure Lead (f : Nat → Int) (k : Nat) (r n : Int) : Prop where
  r0 : 0 ≤ r
  n0 : 0 ≤ n
  top : n < 10 * 2 ^ k
  zero : r = 0 → n = 0
  one : r = 1 → n = f 0 - 48
  lo : 1 ≤ r → 10 ^ (r - 1).toNat ≤ n
theorem p60 {k : Nat} (h : k ≤ 60) : (2 : Int) ^ k ≤ 1152921504606846976 := by
  obtain ⟨c, hc⟩ : ∃ c, 60 = k + c := ⟨60 - k, by omega⟩
  have e : (2 : Int) ^ k * 2 ^ c = 2 ^ 60 := by rw [← Int.pow_add, ← hc]
  have h1 := Int.mul_le_mul_of_nonneg_left (show (1 : Int) ≤ 2 ^ c by have := p2 c; omega) (Int.le_of_lt (p2 k))
  rw [Int.mul_one, e] at h1
  exact h1
theorem right_first {a : Int} {k : Nat} (h0 : 1 ≤ a) (hk : 1 ≤ k) : a / 2 ^ k < a := by
  refine div_lt (Dm.p2 k) ?_
  obtain ⟨c, rfl⟩ : ∃ c, k = c + 1 := ⟨k - 1, by omega⟩
  have hc := Dm.p2 c
  have h1 : a * 1 ≤ a * 2 ^ c := Int.mul_le_mul_of_nonneg_left (by omega) (by omega)
  rw [Int.pow_succ, ← Int.mul_assoc]
  omega
theorem Lead.step {f : Nat → Int} {k : Nat} {r n : Int} (h : Lead f k r n) (hd : 48 ≤ f r.toNat ∧ f r.toNat ≤ 57) (hl : 49 ≤ f 0) (hc : n < 2 ^ k) : Lead f k (r + 1) (n * 10 + f r.toNat - 48) := by
  have r0 := h.r0
  have n0 := h.n0
  refine ⟨by omega, by omega, by omega, fun e => by omega, fun e => ?_, fun _ => ?_⟩
  · obtain rfl : r = 0 := by omega
    rw [h.zero rfl]
    simp
  · rcases Int.lt_or_le r 1 with h1 | h1
    · obtain rfl : r = 0 := by omega
      rw [h.zero rfl]
      simp
      omega
    · have := h.lo h1
      rw [show (r + 1 - 1).toNat = (r - 1).toNat + 1 by omega, Int.pow_succ]
      omega
theorem Lead.zeros {f : Nat → Int} {k : Nat} {r n : Int} (h : Lead f k r n) (h1 : 1 ≤ r) (hc : n < 2 ^ k) : Lead f k (r + 1) (n * 10) := by
  have n0 := h.n0
  have := h.lo h1
  refine ⟨by omega, by omega, by omega, fun e => by omega, fun e => by omega, fun _ => ?_⟩
  rw [show (r + 1 - 1).toNat = (r - 1).toNat + 1 by omega, Int.pow_succ]
  omega
theorem Lead.r_le {f : Nat → Int} {k : Nat} {r n : Int} (h : Lead f k r n) (hk : k ≤ 60) : r ≤ 30 := by
  rcases Int.lt_or_le 30 r with h1 | h1
  · exfalso
    have h2 := h.lo (by omega)
    have h3 := h.top
    have h4 := p60 hk
    have h5 : (10 : Int) ^ 25 ≤ 10 ^ (r - 1).toNat := pow_le (by omega)
    omega
  · exact h1
structure Mid (f f' : Nat → Int) (k : Nat) (r0 n0 r wv n : Int) : Prop where
  rr : r = r0 + wv
  w0 : 0 ≤ wv
  nn : 0 ≤ n
  top : n < 10 * 2 ^ k
  same : ∀ i : Nat, wv ≤ i → f' i = f i
  digs : Digs f' wv.toNat
  zero : wv = 0 → n = n0
  head : 1 ≤ wv → f' 0 = 48 + n0 / 2 ^ k
theorem dig_bd {n : Int} {k : Nat} (h0 : 0 ≤ n) (h1 : n < 10 * 2 ^ k) : 0 ≤ n / 2 ^ k ∧ n / 2 ^ k ≤ 9 := by
  have hp := p2 k
  have h2 := div_lt hp h1
  exact ⟨Int.ediv_nonneg h0 (Int.le_of_lt hp), by omega⟩
theorem digs_put {f' : Nat → Int} {wv x : Int} (h0 : 0 ≤ wv) (h : Digs f' wv.toNat) (h1 : 0 ≤ x) (h2 : x ≤ 9) : Digs (upd f' wv.toNat (x + 48)) (wv + 1).toNat := by
  intro i hi
  by_cases e : i = wv.toNat
  · subst e; rw [upd_same]; omega
  · rw [upd_ne _ e]; exact h i (by omega)
theorem Mid.step {f f' : Nat → Int} {k : Nat} {r0 n0 r wv n : Int} (h : Mid f f' k r0 n0 r wv n) {c : Int} (hc : 48 ≤ c ∧ c ≤ 57) : Mid f (upd f' wv.toNat (n / 2 ^ k + 48)) k r0 n0 (r + 1) (wv + 1) (n % 2 ^ k * 10 + c - 48) := by
  have hd := dig_bd h.nn h.top
  have hb := right_bd (n := n) k
  refine ⟨by have := h.rr; omega, by have := h.w0; omega, by omega, by omega, fun i hi => ?_, digs_put h.w0 h.digs hd.1 hd.2, fun e => by have := h.w0; omega, fun _ => ?_⟩
  · rw [upd_ne _ (by have := h.w0; omega)]; exact h.same i (by omega)
  · rcases Int.lt_or_le 0 wv with h1 | h1
    · rw [upd_ne _ (by omega)]; exact h.head (by omega)
    · obtain rfl : wv = 0 := by have := h.w0; omega
      rw [← h.zero rfl]
      show upd f' 0 _ 0 = _
      rw [upd_same]; omega
structure Out (f' : Nat → Int) (k : Nat) (n0 wv n : Int) (j : Nat) : Prop where
  w0 : 0 ≤ wv
  w8 : wv ≤ 800
  nn : 0 ≤ n
  top : n < 10 * 2 ^ k
  digs : Digs f' wv.toNat
  zero : wv = 0 → n = n0
  head : 1 ≤ wv → f' 0 = 48 + n0 / 2 ^ k
  jk : j ≤ k + 1
  dv : (2 : Int) ^ min j k ∣ n
  last : j = k + 1 → n = 0
theorem Out.num {f' : Nat → Int} {k : Nat} {n0 wv n : Int} {j : Nat} (h : Out f' k n0 wv n j) (hn : 0 < n) : j ≤ k ∧ (2 : Int) ^ min (j + 1) k ∣ n % 2 ^ k * 10 ∧ (j + 1 = k + 1 → n % 2 ^ k * 10 = 0) := by
  have hj : j ≤ k := by
    rcases Nat.lt_or_ge k j with h1 | h1
    · have := h.last (by have := h.jk; omega); omega
    · exact h1
  refine ⟨hj, ?_, fun e => ?_⟩
  · rcases Nat.lt_or_ge j k with h1 | h1
    · have hd := h.dv
      rw [Nat.min_eq_left (by omega)] at hd ⊢
      exact right_step h.nn h1 hd
    · have hd := h.dv
      rw [Nat.min_eq_right (by omega)] at hd ⊢
      rw [right_last hd]
      exact Int.dvd_zero _
  · have hd := h.dv
    rw [Nat.min_eq_right (by omega)] at hd
    exact right_last hd
theorem Out.put {f' : Nat → Int} {k : Nat} {n0 wv n : Int} {j : Nat} (h : Out f' k n0 wv n j) (hn : 0 < n) (hw : wv < 800) : Out (upd f' wv.toNat (n / 2 ^ k + 48)) k n0 (wv + 1) (n % 2 ^ k * 10) (j + 1) := by
  have hd := dig_bd h.nn h.top
  have hb := right_bd (n := n) k
  have hq := h.num hn
  refine ⟨by have := h.w0; omega, by omega, by omega, by omega, digs_put h.w0 h.digs hd.1 hd.2, fun e => by have := h.w0; omega, fun _ => ?_, by omega, hq.2.1, hq.2.2⟩
  rcases Int.lt_or_le 0 wv with h1 | h1
  · rw [upd_ne _ (by omega)]; exact h.head (by omega)
  · obtain rfl : wv = 0 := by have := h.w0; omega
    rw [← h.zero rfl]
    show upd f' 0 _ 0 = _
    rw [upd_same]; omega
theorem Out.lose {f' : Nat → Int} {k : Nat} {n0 wv n : Int} {j : Nat} (h : Out f' k n0 wv n j) (hn : 0 < n) (hw : ¬ wv < 800) : Out f' k n0 wv (n % 2 ^ k * 10) (j + 1) := by
  have hb := right_bd (n := n) k
  have hq := h.num hn
  exact ⟨h.w0, h.w8, by omega, by omega, h.digs, fun e => by omega, h.head, by omega, hq.2.1, hq.2.2⟩
theorem Mid.out {f f' : Nat → Int} {k : Nat} {r0 n0 r wv n : Int} (h : Mid f f' k r0 n0 r wv n) (hw : wv ≤ 800) : Out f' k n0 wv n 0 :=
  ⟨h.w0, hw, h.nn, h.top, h.digs, h.zero, h.head, by omega, by simp, fun e => by omega⟩
theorem and_mask {n : Int} {k : Nat} (hk : k ≤ 60) (h0 : 0 ≤ n) (h1 : n < 10 * 2 ^ k) : bits .and .u64 n (2 ^ k - 1) = n % 2 ^ k := by
  have := p60 hk
  have h := bits_mask .u64 64 (by decide) (fun n h0 h1 => by rw [IntKind.wrap_u64]; omega) k (by omega) n h0 (by omega)
  simpa using h
set_option maxRecDepth 100000 in
set_option maxHeartbeats 4000000 in
theorem right_walk (w : World) (b : Nat) (f : Nat → Int) (nd dp : Int) (ng tr : Bool) (k : Nat) (h : Dc w b f nd dp ng tr) (h0 : 1 ≤ nd) (h1 : nd ≤ 800) (hf : Digs f nd.toNat) (hl : 49 ≤ f 0) (hk1 : 1 ≤ k) (hk2 : k ≤ 60) (hd1 : -1000000000 ≤ dp) (hd2 : dp ≤ 1000000000) :
    Calls Tryd.prog 103 #[.pointer (some ⟨b, 0, none⟩), .int .u64 (k : Int)] w fun e w' => e = .returned (.tuple #[]) ∧ RightS w w' b f dp ng := by
  have HD0 := Aside0.mk h
  have HN0 := Aside0.mk (And.intro h0 (And.intro h1 (And.intro hf hl)))
  have HK0 := Aside0.mk (And.intro hk1 hk2)
  have HDP := Aside0.mk (And.intro hd1 hd2)
  have hm : min k 64 = k := by omega
  have hm1 : min (k : Int).toNat 64 = k := by omega
  have HP := Aside0.mk (p2 k)
  clear h h0 h1 hf hl hk1 hk2 hd1 hd2
  go_enter Tryd.func103, Tryd.ntmps103
  go_upto_block 0 with fail
  go_cut [4, 6] (fun x4 x6 wc => ∃ r n : Int, x4 = .int .i64 r ∧ x6 = .int .u64 n ∧ Aside0 (Dc wc b f nd dp ng tr ∧ Below b w wc ∧ Lead f k r n ∧ 1 ≤ r ∧ 2 ^ k ≤ n ∧ (r ≤ nd → n = V f r.toNat)))
  case first =>
    go_wp2_with fail
    go_loopg [4, 6] 801 (fun kq x4 x6 wr => ∃ r n : Int, x4 = .int .i64 r ∧ x6 = .int .u64 n ∧ Aside0 (Dc wr b f nd dp ng tr ∧ Below b w wr ∧ Lead f k r n ∧ r ≤ nd ∧ nd < r + kq ∧ n = V f r.toNat))
    case atStart => exact ⟨0, 0, rfl, rfl, ⟨HD0.out, Below.refl _ _, ⟨by omega, by omega, by have := HP.out; omega, fun _ => rfl, fun h => by omega, fun h => by omega⟩, by have := HN0.out; omega, by have := HN0.out; omega, rfl⟩⟩
    case round =>
      obtain ⟨r, n, rfl, rfl, HR⟩ := hrel
      have p1 : 0 ≤ r := HR.out.2.2.1.r0
      have p2 : 0 ≤ n := HR.out.2.2.1.n0
      have p3 : r ≤ 800 := by have := HR.out; have := HN0.out; omega
      have p4 : 0 ≤ r + 1 := by omega
      have c0 := HR.out.1.cnd
      have f0 := HR.out.1.fr 800
      by_cases hc : n < 2 ^ k
      · have d1 : (n / 2 ^ k == 0) = true := beq_iff_eq.mpr (Int.ediv_eq_zero_of_lt p2 hc)
        have HC := Aside0.mk hc
        by_cases hr : r < nd
        · have d2 : decide (r ≥ nd) = false := decide_eq_false (by omega)
          have p5 : r < 800 := by have := HN0.out; omega
          have c3 := HR.out.1.at (i := r.toNat) (by omega)
          have f3 := HR.out.1.fr r.toNat
          have hb := HN0.out.2.2.1 r.toNat (by omega)
          have p6 : 48 ≤ f r.toNat := hb.1
          have p7 : f r.toNat ≤ 57 := hb.2
          have p8 : n ≤ 1152921504606846975 := by have := HK0.out; have := p60 (k := k) (by omega); omega
          have HRN := Aside0.mk hr
          clear hc hr hb
          go_wp2
          repeat (go_quiet (fail); try go_wp2)
          go_roundg (gk - 1)
          case measure => have := HR.out; have := HRN.out; omega
          case rel =>
            refine ⟨r + 1, _, rfl, rfl, ⟨HR.out.1, HR.out.2.1, HR.out.2.2.1.step ⟨p6, p7⟩ HN0.out.2.2.2 HC.out, by have := HRN.out; omega, by have := HR.out; have := HRN.out; omega, ?_⟩⟩
            rw [show (r + 1).toNat = r.toNat + 1 by omega, V, HR.out.2.2.2.2.2]
            omega
        · have d2 : decide (r ≥ nd) = true := decide_eq_true (by omega)
          have hr1 : 1 ≤ n := by
            have h1 : 1 ≤ r := by have := HN0.out; omega
            have h2 := HR.out.2.2.1.lo h1
            have := p10 (r - 1).toNat
            omega
          have d3 : (n == 0) = false := beq_eq_false_iff_ne.mpr (by omega)
          have HRN := Aside0.mk (And.intro hr (And.intro hr1 (show 1 ≤ r by have := HN0.out; omega)))
          clear hc hr hr1
          go_wp2_with fail
          repeat (go_quiet (fail); try go_wp2_with fail)
          go_loopg [4, 6] (2 ^ k : Int).toNat (fun kq x4 x6 wr => ∃ r n : Int, x4 = .int .i64 r ∧ x6 = .int .u64 n ∧ Aside0 (Dc wr b f nd dp ng tr ∧ Below b w wr ∧ Lead f k r n ∧ 1 ≤ r ∧ nd ≤ r ∧ 1 ≤ n ∧ 2 ^ k ≤ n + kq ∧ (r ≤ nd → n = V f r.toNat)))
          case atStart => exact ⟨r, n, rfl, rfl, ⟨HR.out.1, HR.out.2.1, HR.out.2.2.1, HRN.out.2.2, by have := HRN.out; omega, HRN.out.2.1, by have := HRN.out; omega, fun _ => HR.out.2.2.2.2.2⟩⟩
          case round =>
            clear c0 f0 d1 d2 d3 p1 p2 p3 p4 HRN HC HR
            obtain ⟨r, n, rfl, rfl, HR⟩ := hrel
            have p1 : 0 ≤ r := HR.out.2.2.1.r0
            have p2 : 0 ≤ n := HR.out.2.2.1.n0
            have p3 : r ≤ 800 := by have := HR.out.2.2.1.r_le HK0.out.2; omega
            by_cases hc : n < 2 ^ k
            · have d1 : (n / 2 ^ k == 0) = true := beq_iff_eq.mpr (Int.ediv_eq_zero_of_lt p2 hc)
              have p8 : n ≤ 1152921504606846975 := by have := HK0.out; have := p60 (k := k) (by omega); omega
              have HC := Aside0.mk hc
              clear hc
              go_wp2
              repeat (go_quiet (fail); try go_wp2)
              go_roundg (gk - 1)
              case measure => have := HR.out; have := HC.out; omega
              case rel => exact ⟨r + 1, _, rfl, rfl, ⟨HR.out.1, HR.out.2.1, HR.out.2.2.1.zeros HR.out.2.2.2.1 HC.out, by omega, by have := HR.out; omega, by have := HR.out; omega, by have := HR.out; have := HC.out; omega, fun h => by have := HR.out; omega⟩⟩
            · have d1 : (n / 2 ^ k == 0) = false := beq_eq_false_iff_ne.mpr (by have := div_in (x := n) (a := 1) (Dm.p2 k) (by omega); omega)
              have HC := Aside0.mk hc
              clear hc
              go_wp2
              repeat (go_quiet (fail); try go_wp2)
              go_meet
              case rel => exact ⟨r, n, rfl, rfl, ⟨HR.out.1, HR.out.2.1, HR.out.2.2.1, HR.out.2.2.2.1, by have := HC.out; omega, HR.out.2.2.2.2.2.2.2⟩⟩
      · have d1 : (n / 2 ^ k == 0) = false := beq_eq_false_iff_ne.mpr (by have := div_in (x := n) (a := 1) (Dm.p2 k) (by omega); omega)
        have HC := Aside0.mk hc
        have HR1 : Aside0 (1 ≤ r) := ⟨by
          rcases Int.lt_or_le r 1 with h1 | h1
          · have := HR.out.2.2.1.zero (by omega); have := HP.out; omega
          · exact h1⟩
        clear hc
        go_wp2
        repeat (go_quiet (fail); try go_wp2)
        go_meet
        case rel => exact ⟨r, n, rfl, rfl, ⟨HR.out.1, HR.out.2.1, HR.out.2.2.1, HR1.out, by have := HC.out; omega, fun _ => HR.out.2.2.2.2.2⟩⟩
  case rest =>
    obtain ⟨r0, n0, rfl, rfl, HR⟩ := hcut
    have p1 : 1 ≤ r0 := HR.out.2.2.2.1
    have p2 : r0 ≤ 30 := HR.out.2.2.1.r_le HK0.out.2
    have p3 : -1000000000 ≤ dp := HDP.out.1
    have p4 : dp ≤ 1000000000 := HDP.out.2
    have c1 := HR.out.1.cdp
    have f1 := HR.out.1.fr 801
    have e1 : IntKind.u64.wrap (2 ^ k) = 2 ^ k := wrap_in (Int.le_of_lt HP.out) (by have := p60 HK0.out.2; omega)
    have e2 : IntKind.u64.wrap (2 ^ k - 1) = 2 ^ k - 1 := wrap_in (by have := HP.out; omega) (by have := p60 HK0.out.2; omega)
    go_wp2_with fail
    repeat (go_quiet (fail); try go_wp2_with fail)
    have HX := Aside0.mk (HR.out.1.putDp (dp - (r0 - 1)))
    have HB0 := Aside0.mk (show Below b w (wc.setCell ⟨b, 801, none⟩ (.int .i64 (dp - (r0 - 1)))) from HR.out.2.1.setCell (by simp) _)
    clear c1 f1 e1 e2
    go_loopg [4, 5, 6] 800 (fun kq x4 x5 x6 wr => ∃ (f' : Nat → Int) (r wv n : Int), x4 = .int .i64 r ∧ x5 = .int .i64 wv ∧ x6 = .int .u64 n ∧ Aside0 (Dc wr b f' nd (dp - (r0 - 1)) ng tr ∧ Below b w wr ∧ Mid f f' k r0 n0 r wv n ∧ nd ≤ r + kq ∧ wv ≤ 800))
    case atStart => exact ⟨f, r0, 0, n0, rfl, rfl, rfl, ⟨HX.out, HB0.out, ⟨by omega, by omega, HR.out.2.2.1.n0, HR.out.2.2.1.top, fun _ _ => rfl, fun i hi => absurd hi (by simp), fun _ => rfl, fun h => by omega⟩, by have := HN0.out.2.1; omega, by omega⟩⟩
    case round =>
      clear HX HB0
      obtain ⟨f', r, wv, n, rfl, rfl, rfl, HQ⟩ := hrel
      have q0 : r = r0 + wv := HQ.out.2.2.1.rr
      have q1 : 0 ≤ wv := HQ.out.2.2.1.w0
      have q2 : 0 ≤ n := HQ.out.2.2.1.nn
      have q4 : 0 ≤ r := by omega
      have q5 : wv ≤ 800 := HQ.out.2.2.2.2
      have q3 : r ≤ 830 := by omega
      have hdg := dig_bd q2 HQ.out.2.2.1.top
      have q6 : 0 ≤ n / 2 ^ k := hdg.1
      have q7 : n / 2 ^ k ≤ 9 := hdg.2
      have hmd := right_bd (n := n) k
      have q8 : 0 ≤ n % 2 ^ k := hmd.1
      have q9 : n % 2 ^ k ≤ 1152921504606846975 := by have := p60 HK0.out.2; omega
      have e3 : bits .and .u64 n (2 ^ k - 1) = n % 2 ^ k := and_mask HK0.out.2 q2 HQ.out.2.2.1.top
      have HQ0 := Aside0.mk q0
      clear q0 hdg hmd
      by_cases hr : r < nd
      · have d1 : decide (r < nd) = true := decide_eq_true hr
        have c0 := HQ.out.1.cnd
        have f0 := HQ.out.1.fr 800
        have q10 : r < 800 := by have := HN0.out.2.1; omega
        have q11 : wv < 800 := by have := HQ0.out; omega
        have c3 := HQ.out.1.at (i := r.toNat) (by omega)
        have f3 := HQ.out.1.fr r.toNat
        have f4 := HQ.out.1.fr wv.toNat
        have c4 := HQ.out.1.at (i := wv.toNat) (by omega)
        have hs := HQ.out.2.2.1.same r.toNat (by have := HQ0.out; omega)
        have hb := HN0.out.2.2.1 r.toNat (by omega)
        have q12 : 48 ≤ f' r.toNat := by rw [hs]; exact hb.1
        have q13 : f' r.toNat ≤ 57 := by rw [hs]; exact hb.2
        have HRN := Aside0.mk hr
        clear hr hs hb
        go_wp2
        repeat (go_quiet (fail); try go_wp2)
        go_roundg (gk - 1)
        case measure => have := HQ.out.2.2.2.1; have := HRN.out; omega
        case rel => exact ⟨_, r + 1, wv + 1, _, rfl, rfl, rfl, ⟨HQ.out.1.put (by omega) _, HQ.out.2.1.setCell (by simp) _, HQ.out.2.2.1.step ⟨q12, q13⟩, by have := HQ.out.2.2.2.1; have := HRN.out; omega, by omega⟩⟩
      · have d1 : decide (r < nd) = false := decide_eq_false hr
        have c0 := HQ.out.1.cnd
        have f0 := HQ.out.1.fr 800
        clear hr
        go_wp2_with fail
        repeat (go_quiet (fail); try go_wp2_with fail)
        have HO0 := Aside0.mk (And.intro HQ.out.1 (And.intro HQ.out.2.1 (HQ.out.2.2.1.out q5)))
        clear HQ HQ0 c0 f0 d1 q1 q2 q3 q4 q5 q6 q7 q8 q9 e3
        go_loopg [5, 6] (k + 1) (fun kq x5 x6 wr => ∃ (f' : Nat → Int) (tr' : Bool) (wv n : Int) (j : Nat), x5 = .int .i64 wv ∧ x6 = .int .u64 n ∧ Aside0 (Dc wr b f' nd (dp - (r0 - 1)) ng tr' ∧ Below b w wr ∧ Out f' k n0 wv n j ∧ j + kq = k + 1))
        case atStart => exact ⟨f', tr, wv, n, 0, rfl, rfl, ⟨HO0.out.1, HO0.out.2.1, HO0.out.2.2, by omega⟩⟩
        case round =>
          clear HO0
          obtain ⟨f', tr', wv, n, j, rfl, rfl, HQ⟩ := hrel
          have q1 : 0 ≤ wv := HQ.out.2.2.1.w0
          have q2 : 0 ≤ n := HQ.out.2.2.1.nn
          have q5 : wv ≤ 800 := HQ.out.2.2.1.w8
          have hdg := dig_bd q2 HQ.out.2.2.1.top
          have q6 : 0 ≤ n / 2 ^ k := hdg.1
          have q7 : n / 2 ^ k ≤ 9 := hdg.2
          have hmd := right_bd (n := n) k
          have q8 : 0 ≤ n % 2 ^ k := hmd.1
          have q9 : n % 2 ^ k ≤ 1152921504606846975 := by have := p60 HK0.out.2; omega
          have e3 : bits .and .u64 n (2 ^ k - 1) = n % 2 ^ k := and_mask HK0.out.2 q2 HQ.out.2.2.1.top
          clear hdg hmd
          by_cases hn : 0 < n
          · have d1 : decide (n > 0) = true := decide_eq_true hn
            have HN := Aside0.mk hn
            clear hn
            by_cases hw : wv < 800
            · have d2 : decide (wv < 800) = true := decide_eq_true hw
              have c4 := HQ.out.1.at (i := wv.toNat) (by omega)
              have f4 := HQ.out.1.fr wv.toNat
              go_wp2
              repeat (go_quiet (fail); try go_wp2)
              go_roundg (gk - 1)
              case measure => have := HQ.out.2.2.2; have := (HQ.out.2.2.1.num HN.out).1; omega
              case rel => exact ⟨_, tr', wv + 1, _, j + 1, rfl, rfl, ⟨HQ.out.1.put (by omega) _, HQ.out.2.1.setCell (by simp) _, HQ.out.2.2.1.put HN.out (by omega), by have := HQ.out.2.2.2; have := (HQ.out.2.2.1.num HN.out).1; omega⟩⟩
            · have d2 : decide (wv < 800) = false := decide_eq_false hw
              have c4 := HQ.out.1.ctr
              have f4 := HQ.out.1.fr 803
              have HW := Aside0.mk hw
              clear hw
              by_cases hg : 0 < n / 2 ^ k
              · have d3 : decide (n / 2 ^ k > 0) = true := decide_eq_true hg
                clear hg
                go_wp2
                repeat (go_quiet (fail); try go_wp2)
                go_roundg (gk - 1)
                case measure => have := HQ.out.2.2.2; have := (HQ.out.2.2.1.num HN.out).1; omega
                case rel => exact ⟨_, true, wv, _, j + 1, rfl, rfl, ⟨HQ.out.1.putTr _, HQ.out.2.1.setCell (by simp) _, HQ.out.2.2.1.lose HN.out (Int.not_lt.mpr HW.out), by have := HQ.out.2.2.2; have := (HQ.out.2.2.1.num HN.out).1; omega⟩⟩
              · have d3 : decide (n / 2 ^ k > 0) = false := decide_eq_false hg
                clear hg
                go_wp2
                repeat (go_quiet (fail); try go_wp2)
                go_roundg (gk - 1)
                case measure => have := HQ.out.2.2.2; have := (HQ.out.2.2.1.num HN.out).1; omega
                case rel => exact ⟨_, tr', wv, _, j + 1, rfl, rfl, ⟨HQ.out.1, HQ.out.2.1, HQ.out.2.2.1.lose HN.out (Int.not_lt.mpr HW.out), by have := HQ.out.2.2.2; have := (HQ.out.2.2.1.num HN.out).1; omega⟩⟩
          · have d1 : decide (n > 0) = false := decide_eq_false hn
            have hwv : 1 ≤ wv := by
              rcases Int.lt_or_le 0 wv with h1 | h1
              · omega
              · have h2 := HQ.out.2.2.1.zero (by omega); have := HR.out.2.2.2.2.1; have := HP.out; omega
            have hg0 := div_in (x := n0) (a := 1) (Dm.p2 k) (by have := HR.out.2.2.2.2.1; omega)
            have h49 : 49 ≤ f' 0 := by have := HQ.out.2.2.1.head hwv; omega
            have HTW := Aside0.mk (fun W (h : Dc W b f' wv (dp - (r0 - 1)) ng tr') => trim_walk W b f' wv _ ng tr' h q1 q5)
            have HF := Aside0.mk (And.intro HQ.out.1 (And.intro HQ.out.2.1 (And.intro HQ.out.2.2.1 (And.intro hwv (And.intro h49 hg0)))))
            have c0 := HQ.out.1.cnd
            have f0 := HQ.out.1.fr 800
            clear hn hwv hg0 h49 HQ q1 q2 q5 q6 q7 q8 q9 e3
            go_wp2_with fail
            repeat (go_quiet (fail); try go_wp2_with fail)
            refine (HTW.out _ (HF.out.1.putNd _)).mono ?_
            rintro e w3 ⟨rfl, HT⟩
            go_wp2
            first | go_end0 | ((try simp only [Exit.inBlock, Exit.then]); refine bodyPost_ret (results_none rfl _ _ _) rfl ?_)
            refine ⟨rfl, ?_⟩
            obtain ⟨nd', dp', hD, h0', h1', h2', hB⟩ := HT.out
            obtain ⟨_, hFB, hFO, hF1, hF49, hFg⟩ := HF.out
            obtain ⟨h3', rfl⟩ := h2' hF1 (by omega)
            refine ⟨f', nd', _, tr', hD, hFO.digs.mono (by have := hFO.w0; omega), hF49, h3', by have := hFO.w8; omega, by omega, by omega, fun e => ?_, ?_⟩
            · have hone := HR.out.2.2.1.one (by omega)
              rw [hFO.head hF1, hone]
              have := right_first (a := f 0 - 48) (k := k) (by have := HN0.out.2.2.2; omega) HK0.out.1
              omega
            · exact (hFB.setCell (by simp) _).trans hB
end Go.Proofs.YtldfejbmdonaoaaDoor.Dr