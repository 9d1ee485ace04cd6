/- Joined by a program of mine from texts of this claim: Ay. -/
import Derived.Test.YtldfejbmdonaoaaGreatDoorZA48
import Derived.Deep.QuietTactic
import Derived.BigQuiet
namespace Go.Proofs.YtldfejbmdonaoaaGreatDoor.Ay
open Go.RowKit YtldfejbmdonaoaaGreatDoorW.PrintWords YtldfejbmdonaoaaGreatDoorW.PrintLast YtldfejbmdonaoaaGreatDoorW.PrintMore Tw Tp Te At Pz Nx Gp Gv Gn Gi Ak Al Am An Ar Ry Wh Tm Aq
set_option linter.unusedVariables false
set_option linter.unusedSimpArgs false
theorem trim_good (s : ByteArray) (i0 j : Int) (T : JT) (h : Gd.Good s i0 j T) (n : Int) (h1 : j ≤ n) (h2 : n ≤ (s.size : Int)) (w : World) :
    Calls Tryz.prog 16 #[.string (s.extract i0.toNat n.toNat)] w fun e w' => e = .returned (.string T.raw) ∧ ∃ n, w' = w.drewN n := by
  have h3 := h.lead.lo
  have h4 := h.lo
  have h5 := h.lead.size
  have hb : ∀ x : Int, 0 ≤ x → x < n - i0 → bt (s.extract i0.toNat n.toNat) x = bt s (i0 + x) := fun x g1 g2 => by
    obtain ⟨a, rfl⟩ : ∃ a : Nat, i0 = a := ⟨i0.toNat, by omega⟩
    obtain ⟨b, rfl⟩ : ∃ b : Nat, n = b := ⟨n.toNat, by omega⟩
    obtain ⟨x, rfl⟩ : ∃ y : Nat, x = y := ⟨x.toNat, by omega⟩
    rw [Int.toNat_natCast, Int.toNat_natCast]
    rw [Bt.bt_extract (by omega) (by omega)]
    rfl
  have hz : (s.extract i0.toNat n.toNat).size = (n - i0).toNat := by rw [ByteArray.size_extract]; omega
  refine (trimmed_walk (s.extract i0.toNat n.toNat) (j - i0).toNat w (by omega) (by omega) (fun x g1 g2 => ?_) (fun g => ?_)).mono ?_
  · rw [hb x (by omega) (by omega)]
    exact h.rest _ (by omega) (by omega)
  · rw [hb _ (by omega) (by omega), show i0 + (((j - i0).toNat : Int) - 1) = j - 1 by omega]
    exact h.last
  · rintro e w' ⟨rfl, m, rfl⟩
    refine ⟨?_, m, rfl⟩
    rw [h.raw, ByteArray.extract_extract]
    congr 3
    omega
set_option maxRecDepth 100000 in
set_option maxHeartbeats 8000000 in
theorem array_law (s : ByteArray) (w : World) (hs : s.size ≤ 140737488351232) (hT : Tabs w w.heap.size) (hV : ErrVars w w.heap.size) :
    Calls Tryz.prog 5 #[.string s] w fun e w' => e = .returned (.bool true) ∧ Below w.heap.size w w' := by
  by_cases c1 : (2147483647 : Int) < (s.size : Int)
  · clear hT hV
    go_enter Tryz.func5, Tryz.ntmps5
    go_wp2_with fail
    go_ret
    exact ⟨rfl, Below.refl _ _⟩
  have HTV := Aside0.mk (fun (W : World) (hb : Below w.heap.size w W) => And.intro ((hT.below hb).mono hb.size) ((hV.below hb).mono hb.size))
  clear hT hV
  go_enter Tryz.func5, Tryz.ntmps5
  go_wp2_with fail
  refine (read_told s _).mono ?_
  rintro e w1 ⟨T, ok, A5, n5, c5, A6, n6, c6, rfl, htree, hok, hb1⟩
  cases ok with
  | false =>
    clear htree hok
    go_wp2_with fail
    go_ret
    exact ⟨rfl, below_alloc hb1 _⟩
  | true =>
  obtain ⟨j, hj⟩ := hok rfl
  have HJ := Aside0.mk hj
  have HTR := Aside0.mk htree
  have HB1 := Aside0.mk (below_alloc hb1 (.cells #[.int .i64 T.kind, .string T.raw, .int .i64 T.place, .string T.str, .bool T.pairs, .slice A5 n5 c5, .slice A6 n6 c6] 25))
  have HX1 := Aside0.mk (heap_alloc_new w1 (.cells #[.int .i64 T.kind, .string T.raw, .int .i64 T.place, .string T.str, .bool T.pairs, .slice A5 n5 c5, .slice A6 n6 c6] 25))
  have HZ := Aside0.mk hb1.size
  clear hok hb1 hj htree c1
  by_cases ck : T.kind = 0
  · have HAN := Aside0.mk (fun (W : World) (hb : Below w.heap.size w W) => array_null HJ.out ck W (HTV.out W hb).1 (HTV.out W hb).2)
    have HA1 := Aside0.mk (fun (W : World) (hb : Below w.heap.size w W) => array_1 W (HTV.out W hb).1 (HTV.out W hb).2)
    have CK := Aside0.mk ck
    clear ck
    go_wp2_with fail
    refine (HAN.out _ HB1.out).mono ?_
    rintro e w2 ⟨L, out, rfl, rfl, hv, hb2⟩
    obtain ⟨A, cc, rfl⟩ := row_slice hv
    have HB2 := Aside0.mk (below_then HB1.out HB1.out.size hb2)
    have p0 := (blk_cell (blk_below HX1.out hb2) 0).trans (rfl : _ = some (Value.int .i64 T.kind))
    rw [CK.out] at p0
    clear hv hb2
    go_wp2_with fail
    refine (HA1.out _ HB2.out).mono ?_
    rintro e w3 ⟨L, out, rfl, hl, hv, hb3⟩
    obtain ⟨A', cc', rfl⟩ := row_slice hv
    rw [hl]
    have HB3 := Aside0.mk (below_then HB2.out HB2.out.size hb3)
    clear hv hb3 hl
    go_wp2
    go_ret
    exact ⟨rfl, HB3.out⟩
  · by_cases cA : T.kind = 5 ∧ bt s (runEnd ws s 0) = 91
    · obtain ⟨h5, h91⟩ := cA
      have hraw := raw_first HJ.out.good
      have HAN := Aside0.mk (fun (W : World) (hb : Below w.heap.size w W) => array_items HJ.out h5 h91 W (HTV.out W hb).1 (HTV.out W hb).2)
      have HA1 := Aside0.mk (fun (W : World) (hb : Below w.heap.size w W) => array_1 W (HTV.out W hb).1 (HTV.out W hb).2)
      have HTA := Aside0.mk (fun (W : World) => show Calls Tryz.prog 15 #[.agg #[.int .i64 T.kind, .string T.raw, .int .i64 T.place, .string T.str, .bool T.pairs, .slice A5 n5 c5, .slice A6 n6 c6]] W fun e w' => e = .returned (.bool true) ∧ Below W.heap.size W w' by
        rw [h5]
        have h := tarr_is T.raw (.inl (by rw [hraw.1]; exact h91)) T.place T.str T.pairs A5 n5 c5 A6 n6 c6 W
        rw [hraw.1, h91] at h
        exact h)
      have d0 : (T.kind == 0) = false := beq_eq_false_iff_ne.mpr ck
      have hn6 : n6 = T.items.length := items_n HTR.out
      subst hn6
      have hlen := (items_toks HJ.out h5 h91).2
      have HLEN := Aside0.mk hlen
      clear hraw h5 h91 ck hlen
      go_wp2_with fail
      refine (HAN.out _ HB1.out).mono ?_
      rintro e w2 ⟨L, out, rfl, rfl, hv, hb2⟩
      obtain ⟨A, cc, rfl⟩ := row_slice hv
      have HV := Aside0.mk hv
      have HB2 := Aside0.mk (below_then HB1.out HB1.out.size hb2)
      have HW2 := Aside0.mk (below_then (below_alloc (Below.refl w1.heap.size w1) (.cells #[.int .i64 T.kind, .string T.raw, .int .i64 T.place, .string T.str, .bool T.pairs, .slice A5 n5 c5, .slice A6 T.items.length c6] 25)) (by simp) hb2)
      have hx := blk_below HX1.out hb2
      have p0 := (blk_cell hx 0).trans (rfl : _ = some (Value.int .i64 T.kind))
      have p1 := (blk_cell hx 1).trans (rfl : _ = some (Value.string T.raw))
      have p2 := (blk_cell hx 2).trans (rfl : _ = some (Value.int .i64 T.place))
      have p3 := (blk_cell hx 3).trans (rfl : _ = some (Value.string T.str))
      have p4 := (blk_cell hx 4).trans (rfl : _ = some (Value.bool T.pairs))
      have p5 := (blk_cell hx 5).trans (rfl : _ = some (Value.slice A5 n5 c5))
      have p6 := (blk_cell hx 6).trans (rfl : _ = some (Value.slice A6 T.items.length c6))
      have HX2 := Aside0.mk hx
      clear hv hb2 hx HAN HX1
      go_wp2_with fail
      refine (HTA.out _).mono ?_
      rintro e w3 ⟨rfl, hb3⟩
      have HB3 := Aside0.mk (below_then HB2.out HB2.out.size hb3)
      have HW3 := Aside0.mk (below_then HW2.out HW2.out.size hb3)
      have HV3 := Aside0.mk hb3
      have q6 := (blk_cell (blk_below HX2.out hb3) 6).trans (rfl : _ = some (Value.slice A6 T.items.length c6))
      clear hb3 p0 p1 p2 p3 p4 p5 p6 HTA HX2
      go_wp2_with fail
      go_loopg [59] T.items.length (fun kq x59 wr => ∃ (j : Nat), x59 = .int .i64 (j : Int) ∧ Aside0 (j ≤ T.items.length ∧ kq ≥ T.items.length - j) ∧ Aside0 (Below w3.heap.size w3 wr))
      case atStart => exact ⟨0, rfl, ⟨by omega⟩, ⟨Below.refl _ _⟩⟩
      case round =>
        obtain ⟨j, rfl, HJJ, HBW⟩ := hrel
        clear q6
        by_cases hj : j < T.items.length
        · obtain ⟨q, hA6, _, hq, B5, m5, e5, B7, m7, e7, x0, x1, x2, x3, x4, x5, x6, htj⟩ := item_cells HTR.out hj
          clear htj
          obtain ⟨_, g, hA, _, hg, v0, v1⟩ := val_cells HV.out hj
          subst hA6 hA
          have mv : ∀ {o : Nat} {v : Value}, w1.cell? ⟨q, o, none⟩ = some v → wr.cell? ⟨q, o, none⟩ = some v := fun h => by
            have h2 := (HW3.out.cell hq).trans h
            exact (HBW.out.cell (lt_of_cell h2)).trans h2
          have mg : ∀ {o : Nat} {v : Value}, w2.cell? ⟨g, o, none⟩ = some v → wr.cell? ⟨g, o, none⟩ = some v := fun h => by
            have h2 := (HV3.out.cell hg).trans h
            exact (HBW.out.cell (lt_of_cell h2)).trans h2
          replace x0 := mv x0
          replace x1 := mv x1
          replace x2 := mv x2
          replace x3 := mv x3
          replace x4 := mv x4
          replace x5 := mv x5
          replace x6 := mv x6
          replace v0 := mg v0
          replace v1 := mg v1
          obtain ⟨U, hU⟩ : ∃ U, T.items[j] = U := ⟨_, rfl⟩
          rw [hU] at x0 x1 x2 x3 x4 v0 v1
          have y0 : ∀ o, (wr.alloc o).cell? ⟨g, j * 6, none⟩ = some (.int .i64 U.kind) := fun o => (Below.cell (Below.alloc (Below.refl wr.heap.size wr) (Nat.le_refl _) o) (lt_of_cell v0)).trans v0
          have y1 : ∀ o, (wr.alloc o).cell? ⟨g, j * 6 + 1, none⟩ = some (.string U.raw) := fun o => (Below.cell (Below.alloc (Below.refl wr.heap.size wr) (Nat.le_refl _) o) (lt_of_cell v1)).trans v1
          have q0 : (0 : Int) ≤ (j : Int) := Int.natCast_nonneg j
          have q1 : ((j : Int) < (T.items.length : Int)) = True := eq_true (by omega)
          have q2 : decide ((j : Int) < (T.items.length : Int)) = true := decide_eq_true (by omega)
          have q3 : (j < T.items.length) = True := eq_true hj
          have q4 : decide (j < T.items.length) = true := decide_eq_true hj
          have q5 : j ≤ 70000 := by have := HLEN.out; omega
          have HJ2 := Aside0.mk hj
          clear hj hU mv mg hq hg
          go_wp2_with fail
          go_quiet (fail)
          go_wp2
          go_roundg (T.items.length - (j + 1))
          case measure => have := HJJ.out; have := HJ2.out; omega
          case rel => exact ⟨j + 1, (by first | rfl | (congr 1; omega)), ⟨by have := HJJ.out; have := HJ2.out; omega⟩, ⟨pw_below_drewN (below_alloc HBW.out _) _⟩⟩
        · have q1 : ((j : Int) < (T.items.length : Int)) = False := eq_false (by omega)
          have q2 : decide ((j : Int) < (T.items.length : Int)) = false := decide_eq_false (by omega)
          have q3 : (j < T.items.length) = False := eq_false hj
          have q4 : decide (j < T.items.length) = false := decide_eq_false hj
          have HB4 := Aside0.mk (below_then HB3.out HB3.out.size HBW.out)
          clear HBW
          go_wp2_with fail
          refine (HA1.out _ HB4.out).mono ?_
          rintro e w5 ⟨L, out, rfl, hl, hv, hb5⟩
          obtain ⟨A', cc', rfl⟩ := row_slice hv
          rw [hl]
          have HB5 := Aside0.mk (below_then HB4.out HB4.out.size hb5)
          clear hv hb5 hl
          go_wp2
          go_ret
          exact ⟨rfl, HB5.out⟩
    · have hraw := raw_first HJ.out.good
      have h123 : T.kind = 5 → bt s (runEnd ws s 0) = 123 := fun h5 => by
        have h9 : bt s (runEnd ws s 0) ≠ 91 := fun h => cA ⟨h5, h⟩
        rcases HJ.out.good.is with ⟨h3, _⟩ | ⟨n, hn, _⟩
        · omega
        · rcases hn with ⟨_, h, _⟩ | ⟨h, _⟩ | ⟨⟨h, _⟩ | ⟨h, _⟩ | ⟨h, _⟩, _⟩ <;> omega
      have HAN := Aside0.mk (fun (W : World) (hb : Below w.heap.size w W) => array_one HJ.out ck h123 W (HTV.out W hb).1 (HTV.out W hb).2)
      have HTA := Aside0.mk (fun (W : World) => show Calls Tryz.prog 15 #[.agg #[.int .i64 T.kind, .string T.raw, .int .i64 T.place, .string T.str, .bool T.pairs, .slice A5 n5 c5, .slice A6 n6 c6]] W fun e w' => e = .returned (.bool false) ∧ Below W.heap.size W w' by
        by_cases h5 : T.kind = 5
        · rw [h5]
          have h := tarr_is T.raw (.inr (by rw [hraw.1]; exact h123 h5)) T.place T.str T.pairs A5 n5 c5 A6 n6 c6 W
          rw [hraw.1, h123 h5] at h
          exact h
        · exact tarr_kind T.kind h5 T.raw T.place T.str T.pairs A5 n5 c5 A6 n6 c6 W)
      have d0 : (T.kind == 0) = false := beq_eq_false_iff_ne.mpr ck
      clear hraw h123 cA ck
      go_wp2_with fail
      refine (HAN.out _ HB1.out).mono ?_
      rintro e w2 ⟨L, out, rfl, ⟨n, n1, n2, rfl⟩, hv, hb2⟩
      obtain ⟨A, cc, rfl⟩ := row_slice hv
      obtain ⟨_, g, rfl, hg1, hg2, v0, v1⟩ := val_cells hv (j := 0) (by simp)
      replace v1 : w2.cell? ⟨g, 1, none⟩ = some (.string (s.extract (runEnd ws s 0).toNat n.toNat)) := by simpa [one, JT.raw] using v1
      have HB2 := Aside0.mk (below_then HB1.out HB1.out.size hb2)
      have hx := blk_below HX1.out hb2
      have p0 := (blk_cell hx 0).trans (rfl : _ = some (Value.int .i64 T.kind))
      have p1 := (blk_cell hx 1).trans (rfl : _ = some (Value.string T.raw))
      have p2 := (blk_cell hx 2).trans (rfl : _ = some (Value.int .i64 T.place))
      have p3 := (blk_cell hx 3).trans (rfl : _ = some (Value.string T.str))
      have p4 := (blk_cell hx 4).trans (rfl : _ = some (Value.bool T.pairs))
      have p5 := (blk_cell hx 5).trans (rfl : _ = some (Value.slice A5 n5 c5))
      have p6 := (blk_cell hx 6).trans (rfl : _ = some (Value.slice A6 n6 c6))
      have HV := Aside0.mk (And.intro hg2 (And.intro hx v1))
      have HN := Aside0.mk (And.intro n1 n2)
      clear hv hb2 v0 v1 hg1 hg2 hx n1 n2
      go_wp2_with fail
      refine (HTA.out _).mono ?_
      rintro e w3 ⟨rfl, hb3⟩
      have HB3 := Aside0.mk (below_then HB2.out HB2.out.size hb3)
      have v1 := (hb3.cell HV.out.1).trans HV.out.2.2
      have q1 := (blk_cell (blk_below HV.out.2.1 hb3) 1).trans (rfl : _ = some (Value.string T.raw))
      have HTR2 := Aside0.mk (fun W => trim_good s _ j T HJ.out.good n HN.out.1 HN.out.2 W)
      obtain ⟨X, hX⟩ : ∃ X, s.extract (runEnd ws s 0).toNat n.toNat = X := ⟨_, rfl⟩
      rw [hX] at HTR2 v1
      clear hX hb3 p0 p1 p2 p3 p4 p5 p6 HV HAN HTA HTR HJ
      go_wp2_with fail
      go_quiet ((go_at_call 16; exact Calls.quiet_of (v := .string T.raw) (HTR2.out _)))
      go_wp2
      go_ret
      exact ⟨rfl, pw_below_drewN HB3.out _⟩
end Go.Proofs.YtldfejbmdonaoaaGreatDoor.Ay