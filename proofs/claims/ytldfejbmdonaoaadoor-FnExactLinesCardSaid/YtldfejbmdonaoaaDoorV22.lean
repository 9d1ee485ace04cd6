/- Joined by a program of mine from texts of this claim: Dl. -/
import Derived.Test.YtldfejbmdonaoaaDoorV21
namespace Go.Proofs.YtldfejbmdonaoaaDoor.Dl
open Go.RowKit YtldfejbmdonaoaaDoorW.PrintWords YtldfejbmdonaoaaDoorW.PrintLast YtldfejbmdonaoaaDoorW.PrintMore Dm Dw Dr
set_option linter.unusedVariables false
set_option linter.unusedSimpArgs false
def cb (c : ByteArray) (i : Nat) : Int := bt c (i : Int)
structure Cut (c : ByteArray) : Prop where
  size : c.size ≤ 100
  digs : Digs (cb c) c.size
  last : 0 < c.size → 49 ≤ cb c (c.size - 1)
structure Less (f : Nat → Int) (N : Nat) (c : ByteArray) (r : Bool) : Prop where
  yes : r = true → V f N * 10 ^ c.size < V (cb c) c.size * 10 ^ N
  no : r = false → V (cb c) c.size * 10 ^ N ≤ V f N * 10 ^ c.size
def LessPost (f : Nat → Int) (N : Nat) (c : ByteArray) (w : World) (e : Ending) (w' : World) : Prop := ∃ r, e = .returned (.bool r) ∧ Less f N c r ∧ Drawn0 w w'
set_option maxRecDepth 100000 in
set_option maxHeartbeats 4000000 in
theorem less_walk (w : World) (b : Nat) (f : Nat → Int) (N : Nat) (nd dp : Int) (ng tr : Bool) (h : Dc w b f nd dp ng tr) (h1 : N ≤ 800) (hf : Digs f N) (c : ByteArray) (hc : Cut c) :
    Calls Tryd.prog 109 #[.slice (some ⟨b, 0, none⟩) N 800, .string c] w (LessPost f N c w) := by
  have HD0 := Aside0.mk h
  have HN0 := Aside0.mk (And.intro h1 hf)
  have HC0 := Aside0.mk hc
  clear h h1 hf hc
  go_enter Tryd.func109, Tryd.ntmps109
  go_wp2
  go_loopg [5] 101 (fun kq x5 wr => ∃ i : Int, x5 = .int .i64 i ∧ Aside0 (Dc wr b f nd dp ng tr ∧ Drawn0 w wr ∧ 0 ≤ i ∧ i ≤ N ∧ i ≤ c.size ∧ c.size < i + kq ∧ (∀ j : Nat, j < i.toNat → f j = cb c j)))
  case atStart => exact ⟨0, rfl, ⟨HD0.out, Drawn0.refl _, by omega, by omega, by omega, by have := HC0.out.size; omega, fun j hj => absurd hj (by simp)⟩⟩
  case round =>
    obtain ⟨i, rfl, HR⟩ := hrel
    have p1 : 0 ≤ i := HR.out.2.2.1
    have p2 : i ≤ 800 := by have := HR.out; have := HN0.out.1; omega
    by_cases hi : i < (c.size : Int)
    · have d1 : decide (i < (c.size : Int)) = true := decide_eq_true hi
      have q1 : (i < (c.size : Int)) = True := eq_true hi
      by_cases hn : i < (N : Int)
      · have d2 : decide (i ≥ (N : Int)) = false := decide_eq_false (by omega)
        have q2 : (i < (N : Int)) = True := eq_true hn
        have hN := HN0.out.1
        have c3 := HR.out.1.at (i := i.toNat) (by omega)
        have f3 := HR.out.1.fr i.toNat
        have hx := bt_at c i
        have HI := Aside0.mk (And.intro hi hn)
        clear hi hn hN
        by_cases he : f i.toNat = bt c i
        · have d3 : (f i.toNat != bt c i) = false := bne_eq_false_iff_eq.mpr he
          have HE := Aside0.mk he
          clear he
          go_wp2
          repeat (go_quiet (fail); try go_wp2)
          go_roundg (gk - 1)
          case measure => have := HR.out; have := HI.out; omega
          case rel =>
            refine ⟨i + 1, rfl, ⟨HR.out.1.drewN _, Drawn0.step HR.out.2.1 _, by omega, by have := HI.out; omega, by have := HI.out; omega, by have := HR.out; omega, fun j hj => ?_⟩⟩
            by_cases e : j = i.toNat
            · subst e
              rw [HE.out]
              unfold cb
              congr 1
              omega
            · exact HR.out.2.2.2.2.2.2 j (by omega)
        · have d3 : (f i.toNat != bt c i) = true := bne_iff_ne.mpr he
          have ecb : cb c i.toNat = bt c i := by unfold cb; congr 1; omega
          by_cases hl : f i.toNat < bt c i
          · have d4 : decide (f i.toNat < bt c i) = true := decide_eq_true hl
            have HL : Less f N c true := ⟨fun _ => cmp_lt HN0.out.2 HC0.out.digs (by have := HI.out; omega) (by have := HI.out; omega) HR.out.2.2.2.2.2.2 (by rw [ecb]; exact hl), fun h => absurd h (by decide)⟩
            have HL' := Aside0.mk HL
            clear he hl ecb HL
            go_wp2
            repeat (go_quiet (fail); try go_wp2)
            go_ret
            exact ⟨_, rfl, HL'.out, Drawn0.step (Drawn0.step HR.out.2.1 _) _⟩
          · have d4 : decide (f i.toNat < bt c i) = false := decide_eq_false hl
            have HL : Less f N c false := ⟨fun h => absurd h (by decide), fun _ => Int.le_of_lt (cmp_lt HC0.out.digs HN0.out.2 (by have := HI.out; omega) (by have := HI.out; omega) (fun j hj => (HR.out.2.2.2.2.2.2 j hj).symm) (by rw [ecb]; omega))⟩
            have HL' := Aside0.mk HL
            clear he hl ecb HL
            go_wp2
            repeat (go_quiet (fail); try go_wp2)
            go_ret
            exact ⟨_, rfl, HL'.out, Drawn0.step (Drawn0.step HR.out.2.1 _) _⟩
      · have d2 : decide (i ≥ (N : Int)) = true := decide_eq_true (by omega)
        have HL : Less f N c true := ⟨fun _ => cmp_short HC0.out.digs (by omega) (fun j hj => HR.out.2.2.2.2.2.2 j (by omega)) (HC0.out.last (by omega)), fun h => absurd h (by decide)⟩
        have HL' := Aside0.mk HL
        clear hn HL hi
        go_wp2
        repeat (go_quiet (fail); try go_wp2)
        go_ret
        exact ⟨_, rfl, HL'.out, HR.out.2.1⟩
    · have d1 : decide (i < (c.size : Int)) = false := decide_eq_false hi
      have HL : Less f N c false := ⟨fun h => absurd h (by decide), fun _ => cmp_front HN0.out.2 (by have := HR.out; omega) (fun j hj => HR.out.2.2.2.2.2.2 j (by omega))⟩
      have HL' := Aside0.mk HL
      clear HL hi
      go_wp2
      repeat (go_quiet (fail); try go_wp2)
      go_ret
      exact ⟨_, rfl, HL'.out, HR.out.2.1⟩
def lessB (f : Nat → Int) (N : Nat) (c : ByteArray) : Bool := decide (V f N * 10 ^ c.size < V (cb c) c.size * 10 ^ N)
theorem Less.is {f : Nat → Int} {N : Nat} {c : ByteArray} {r : Bool} (h : Less f N c r) : r = lessB f N c := by
  unfold lessB
  cases r with
  | true => exact (decide_eq_true (h.yes rfl)).symm
  | false => exact (decide_eq_false (Int.not_lt.mpr (h.no rfl))).symm
structure Cheats (W : World) (lim : Nat) : Prop where
  mk :: (out : 10 < lim ∧ ∃ B o, B < lim ∧ W.cell? ⟨10, 0, none⟩ = some (.slice (some ⟨B, o, none⟩) 61 61) ∧
    ∀ k : Nat, 1 ≤ k → k ≤ 60 → ∃ (d : Nat) (c : ByteArray), W.cell? ⟨B, o + k * 2, none⟩ = some (.int .i64 (d : Int)) ∧ W.cell? ⟨B, o + k * 2 + 1, none⟩ = some (.string c) ∧ Cut c ∧ d ≤ 19 ∧ Cheat k d (V (cb c) c.size) c.size)
theorem Cheats.below {W W' : World} {lim : Nat} (h : Cheats W lim) (hb : Below lim W W') : Cheats W' lim := by
  obtain ⟨hg, B, o, hB, hc, hk⟩ := h.out
  refine ⟨hg, B, o, hB, by rw [hb.cell (p := ⟨_, 0, none⟩) hg]; exact hc, fun k h1 h2 => ?_⟩
  obtain ⟨d, c, h3, h4, h5⟩ := hk k h1 h2
  exact ⟨d, c, by rw [hb.cell (p := ⟨B, _, none⟩) hB]; exact h3, by rw [hb.cell (p := ⟨B, _, none⟩) hB]; exact h4, h5⟩
theorem Cheats.mono {W : World} {lim lim' : Nat} (h : Cheats W lim) (hl : lim ≤ lim') : Cheats W lim' := by
  obtain ⟨hg, B, o, hB, r⟩ := h.out
  exact ⟨by omega, B, o, by omega, r⟩
structure L1 (f f' : Nat → Int) (k N : Nat) (dl r wv n : Int) (mm : Nat) : Prop where
  r1 : -1 ≤ r
  rm : r + 1 + mm = N
  wr : wv = r + 1 + dl
  num : n = carry f k (r + 1).toNat mm
  same : ∀ i : Nat, (i : Int) < wv → f' i = f i
  digs : ∀ i : Nat, wv ≤ i → (i : Int) < N + dl → i < 800 → 48 ≤ f' i ∧ f' i ≤ 57
  top : r = -1 → dl = 0 → f' 0 = 48 + S f 0 N * 2 ^ k / 10 ^ (N - 1) % 10
section
variable {f f' : Nat → Int} {k N : Nat} {dl r wv n : Int} {mm : Nat}
theorem L1.bd (h : L1 f f' k N dl r wv n mm) (hf : Digs f N) : 0 ≤ n ∧ n < 2 ^ k := by
  have h1 := h.r1
  have h2 := h.rm
  rw [h.num]
  exact carry_bd (by rw [show (r + 1).toNat + mm = N by omega]; exact hf)
theorem L1.next (h : L1 f f' k N dl r wv n mm) (h0 : 0 ≤ r) : n + (f r.toNat - 48) * 2 ^ k = S f r.toNat (mm + 1) * 2 ^ k / 10 ^ mm := by
  rw [h.num, show (r + 1).toNat = r.toNat + 1 by omega]
  exact carry_mid f k r.toNat mm
theorem L1.quo (h : L1 f f' k N dl r wv n mm) (h0 : 0 ≤ r) : (n + (f r.toNat - 48) * 2 ^ k) / 10 = carry f k (r - 1 + 1).toNat (mm + 1) := by
  rw [h.num, show (r + 1).toNat = r.toNat + 1 by omega, show (r - 1 + 1).toNat = r.toNat by omega]
  exact carry_step f k r.toNat mm
theorem L1.put (h : L1 f f' k N dl r wv n mm) (h0 : 0 ≤ r) (hd : 0 ≤ dl) (hw : wv - 1 < 800) : L1 f (upd f' (wv - 1).toNat ((n + (f r.toNat - 48) * 2 ^ k) % 10 + 48)) k N dl (r - 1) (wv - 1) ((n + (f r.toNat - 48) * 2 ^ k) / 10) (mm + 1) := by
  have hr := h.rm
  have hwr := h.wr
  refine ⟨by omega, by omega, by omega, h.quo h0, fun i hi => ?_, fun i h1 h2 h3 => ?_, fun h1 h2 => ?_⟩
  · rw [upd_ne _ (by omega)]; exact h.same i (by omega)
  · by_cases e : i = (wv - 1).toNat
    · subst e; rw [upd_same]; omega
    · rw [upd_ne _ e]; exact h.digs i (by omega) h2 h3
  · have e0 : (wv - 1).toNat = 0 := by omega
    rw [e0, upd_same, h.next h0, show r.toNat = 0 by omega, show N = mm + 1 by omega, Nat.add_sub_cancel]
    omega
theorem L1.lose (h : L1 f f' k N dl r wv n mm) (h0 : 0 ≤ r) (hd : 0 ≤ dl) (hd2 : dl ≤ 19) (hw : 800 ≤ wv - 1) : L1 f f' k N dl (r - 1) (wv - 1) ((n + (f r.toNat - 48) * 2 ^ k) / 10) (mm + 1) := by
  have hr := h.rm
  have hwr := h.wr
  exact ⟨by omega, by omega, by omega, h.quo h0, fun i hi => h.same i (by omega), fun i h1 h2 h3 => by omega, fun h1 h2 => by omega⟩
end
structure L2 (f f' : Nat → Int) (N : Nat) (dl wv n : Int) : Prop where
  num : wv = 0 ∧ n = 0 ∨ 1 ≤ wv ∧ 10 ^ (wv - 1).toNat ≤ n ∧ n < 10 ^ wv.toNat
  le : wv ≤ dl
  digs : ∀ i : Nat, wv ≤ i → (i : Int) < N + dl → i < 800 → 48 ≤ f' i ∧ f' i ≤ 57
  top : wv = 0 → 49 ≤ f' 0 ∧ (dl = 0 → f 0 < f' 0)
theorem L2.step {f f' : Nat → Int} {N : Nat} {dl wv n : Int} (h : L2 f f' N dl wv n) (hn : 0 < n) (hd : dl ≤ 19) : 1 ≤ wv ∧ L2 f (upd f' (wv - 1).toNat (n % 10 + 48)) N dl (wv - 1) (n / 10) := by
  obtain ⟨h1, h2, h3⟩ : 1 ≤ wv ∧ 10 ^ (wv - 1).toNat ≤ n ∧ n < 10 ^ wv.toNat := by
    rcases h.num with h1 | h1
    · omega
    · exact h1
  have hle := h.le
  refine ⟨h1, ?_, by omega, fun i h4 h5 h6 => ?_, fun h4 => ⟨?_, fun h5 => by omega⟩⟩
  · rcases Int.lt_or_le 1 wv with h4 | h4
    · right
      obtain ⟨u, hu⟩ : ∃ u : Nat, wv = u + 2 := ⟨(wv - 2).toNat, by omega⟩
      subst hu
      rw [show ((u : Int) + 2 - 1).toNat = u + 1 by omega, Int.pow_succ] at h2
      rw [show ((u : Int) + 2).toNat = u + 1 + 1 by omega, Int.pow_succ] at h3
      rw [show ((u : Int) + 2 - 1 - 1).toNat = u by omega, show ((u : Int) + 2 - 1).toNat = u + 1 by omega]
      omega
    · left
      obtain rfl : wv = 1 := by omega
      have : n < 10 := h3
      omega
  · by_cases e : i = (wv - 1).toNat
    · subst e; rw [upd_same]; omega
    · rw [upd_ne _ e]; exact h.digs i (by omega) h5 h6
  · obtain rfl : wv = 1 := by omega
    have : n < 10 := h3
    show 49 ≤ upd f' 0 _ 0
    rw [upd_same]
    omega
theorem L1.fin {f f' : Nat → Int} {k N : Nat} {dl r wv n : Int} {mm : Nat} (h : L1 f f' k N dl r wv n mm) (hr : r = -1) (hN : 1 ≤ N) (hf : Digs f N) (hl : 49 ≤ f 0) (hk : 1 ≤ k) (hd : 0 ≤ dl)
    (hX : V f N * 2 ^ k < 10 ^ (N + dl.toNat) ∧ 10 ^ (N + dl.toNat - 1) ≤ V f N * 2 ^ k) : L2 f f' N dl wv n := by
  have hm := h.rm
  have hw := h.wr
  have e : n = V f N * 2 ^ k / 10 ^ N := by
    rw [h.num, V_eq_S, show (r + 1).toNat = 0 by omega, show mm = N by omega]
    rfl
  subst hr
  refine ⟨?_, by omega, fun i h1 h2 h3 => h.digs i h1 h2 h3, fun h0 => ?_⟩
  · rcases Int.lt_or_le 0 dl with h1 | h1
    · right
      have hlo := div_in (p10 N) (a := 10 ^ (dl.toNat - 1)) (x := V f N * 2 ^ k) (by rw [← Int.pow_add, show dl.toNat - 1 + N = N + dl.toNat - 1 by omega]; exact hX.2)
      have hhi := div_lt (p10 N) (a := 10 ^ dl.toNat) (x := V f N * 2 ^ k) (by rw [← Int.pow_add, Nat.add_comm]; exact hX.1)
      rw [e, show (wv - 1).toNat = dl.toNat - 1 by omega, show wv.toNat = dl.toNat by omega]
      exact ⟨by omega, hlo, hhi⟩
    · left
      have hhi := div_lt (p10 N) (a := 1) (x := V f N * 2 ^ k) (by rw [Int.one_mul]; have := hX.1; rw [show N + dl.toNat = N by omega] at this; exact this)
      have hlo : 0 ≤ V f N * 2 ^ k / 10 ^ N := Int.ediv_nonneg (Int.mul_nonneg (V_bd hf).1 (Int.le_of_lt (Dm.p2 k))) (Int.le_of_lt (p10 N))
      omega
  · have hdl : dl = 0 := by omega
    have ht := h.top rfl hdl
    rw [← V_eq_S] at ht
    obtain ⟨M, rfl⟩ : ∃ M, N = M + 1 := ⟨N - 1, by omega⟩
    rw [Nat.add_sub_cancel] at ht
    have hX1 := hX.1
    rw [show M + 1 + dl.toNat = M + 1 by omega, Int.pow_succ] at hX1
    have hhi := div_lt (p10 M) (a := 10) (x := V f (M + 1) * 2 ^ k) (by rw [Int.mul_comm 10]; exact hX1)
    have hV := (V_head (f := f) (i := 1) (n := M + 1) hf (by omega)).1
    have hV1 : V f 1 = f 0 - 48 := by simp [V]
    rw [hV1, Nat.add_sub_cancel] at hV
    obtain ⟨c, rfl⟩ : ∃ c, k = c + 1 := ⟨k - 1, by omega⟩
    have h2 : (f 0 - 48) * 2 * 10 ^ M ≤ V f (M + 1) * 2 ^ (c + 1) := by
      have hV0 := (V_bd hf).1
      have hc := Dm.p2 c
      have h3 : V f (M + 1) * 2 * 1 ≤ V f (M + 1) * 2 * 2 ^ c := Int.mul_le_mul_of_nonneg_left (by omega) (by omega)
      rw [Int.pow_succ, Int.mul_comm (2 ^ c), ← Int.mul_assoc]
      have h4 : (f 0 - 48) * 2 * 10 ^ M = (f 0 - 48) * 10 ^ M * 2 := by rw [Int.mul_assoc, Int.mul_comm 2, ← Int.mul_assoc]
      rw [h4]
      omega
    have hlo := div_in (p10 M) h2
    rw [ht]
    omega
end Go.Proofs.YtldfejbmdonaoaaDoor.Dl