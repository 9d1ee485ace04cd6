/- Joined by a program of mine from texts of this claim: Gp, Gv. -/
import Derived.Test.YtldfejbmdonaoaaGreatDoorZB32
namespace Go.Proofs.YtldfejbmdonaoaaGreatDoor.Gp
open Go.RowKit YtldfejbmdonaoaaGreatDoorW.PrintWords YtldfejbmdonaoaaGreatDoorW.PrintLast YtldfejbmdonaoaaGreatDoorW.PrintMore Tp Te Ts
set_option linter.unusedVariables false
set_option linter.unusedSimpArgs false
set_option linter.unusedSectionVars false
@[go_sem] theorem run_store_float {P : Program} {w : World} {a : Addr} {m : Mode} (k : FloatKind) (x : _) : (store a (.float k x) m).run P w = stored P w a (.float k x) m := run_store P w a _ m rfl
section
variable {s v : ByteArray} {a : Int} (h0 : 0 ≤ a) (hb : ∀ x, 0 ≤ x → bt v x = bt s (a + x)) (hz : (v.size : Int) = (s.size : Int) - a)
include h0 hb hz
theorem hex_tail {x : Int} (h1 : 0 ≤ x) : hex4 v x = hex4 s (a + x) ∧ hexV v x = hexV s (a + x) := by
  unfold hex4 hexV
  rw [hb x h1, hb (x + 1) (by omega), hb (x + 2) (by omega), hb (x + 3) (by omega), show a + (x + 1) = a + x + 1 by omega, show a + (x + 2) = a + x + 2 by omega, show a + (x + 3) = a + x + 3 by omega]
  exact ⟨rfl, rfl⟩
theorem escR_tail {i : Int} (hi : 0 ≤ i) : escR v i = (escR s (a + i)).map fun r => (r.1, r.2.1, r.2.2 - a) := by
  have e1 := hex_tail h0 hb hz (x := i + 1) (by omega)
  have e7 := hex_tail h0 hb hz (x := i + 7) (by omega)
  rw [show a + (i + 1) = a + i + 1 by omega] at e1
  rw [show a + (i + 7) = a + i + 7 by omega] at e7
  have b5 := hb (i + 5) (by omega)
  have b6 := hb (i + 6) (by omega)
  rw [show a + (i + 5) = a + i + 5 by omega] at b5
  rw [show a + (i + 6) = a + i + 6 by omega] at b6
  unfold escR
  rw [hb i hi, e1.1, e1.2, e7.1, e7.2, b5, b6]
  clear e1 e7 b5 b6
  by_cases c1 : bt s (a + i) = 117
  · rw [if_pos c1, if_pos c1]
    by_cases c2 : hex4 s (a + i + 1) = true
    · rw [if_pos c2, if_pos c2]
      by_cases c3 : hexV s (a + i + 1) < 55296 ∨ hexV s (a + i + 1) > 57343
      · rw [if_pos c3, if_pos c3]; simp; omega
      rw [if_neg c3, if_neg c3]
      by_cases c4 : hexV s (a + i + 1) ≥ 56320 ∨ i + 6 ≥ (v.size : Int) ∨ bt s (a + i + 5) ≠ 92 ∨ bt s (a + i + 6) ≠ 117
      · have c4' : hexV s (a + i + 1) ≥ 56320 ∨ a + i + 6 ≥ (s.size : Int) ∨ bt s (a + i + 5) ≠ 92 ∨ bt s (a + i + 6) ≠ 117 := c4.imp id (Or.imp (fun h => by omega) id)
        rw [if_pos c4, if_pos c4']; simp; omega
      have c4' : ¬ (hexV s (a + i + 1) ≥ 56320 ∨ a + i + 6 ≥ (s.size : Int) ∨ bt s (a + i + 5) ≠ 92 ∨ bt s (a + i + 6) ≠ 117) := fun c => c4 (c.imp id (Or.imp (fun h => by omega) id))
      rw [if_neg c4, if_neg c4']
      by_cases c5 : hex4 s (a + i + 7) = true
      · rw [if_pos c5, if_pos c5]
        by_cases c6 : hexV s (a + i + 7) < 56320 ∨ hexV s (a + i + 7) > 57343
        · rw [if_pos c6, if_pos c6]; simp; omega
        · rw [if_neg c6, if_neg c6]; simp; omega
      · rw [if_neg c5, if_neg c5]; rfl
    · rw [if_neg c2, if_neg c2]; rfl
  · rw [if_neg c1, if_neg c1]
    by_cases c2 : esc (bt s (a + i)) = true
    · rw [if_pos c2, if_pos c2]; simp; omega
    · rw [if_neg c2, if_neg c2]; rfl
theorem textR_tail : ∀ (n : Nat) (i : Int), 0 ≤ i → textR v n i = (textR s n (a + i)).map fun r => (r.1, r.2.1, r.2.2 - a) := by
  intro n
  induction n with
  | zero => intro i hi; rfl
  | succ n ih =>
    intro i hi
    have e1 := escR_tail h0 hb hz (i := i + 1) (by omega)
    rw [show a + (i + 1) = a + i + 1 by omega] at e1
    have t1 := ih (i + 1) (by omega)
    rw [show a + (i + 1) = a + i + 1 by omega] at t1
    unfold textR
    rw [hb i hi]
    by_cases c1 : bt s (a + i) < 32
    · rw [if_pos c1, if_pos c1]; rfl
    rw [if_neg c1, if_neg c1]
    by_cases c2 : bt s (a + i) = 34
    · rw [if_pos c2, if_pos c2]; simp; omega
    rw [if_neg c2, if_neg c2]
    by_cases c3 : bt s (a + i) = 92
    · rw [if_pos c3, if_pos c3, e1]
      cases hE : escR s (a + i + 1) with
      | none => rfl
      | some e =>
        obtain ⟨e, b, q⟩ := e
        have hq := escR_le hE
        have t2 := ih (q - a) (by omega)
        rw [show a + (q - a) = q by omega] at t2
        simp only [Option.map_some, Option.bind_some]
        rw [t2]
        cases textR s n q with
        | none => rfl
        | some r => rfl
    · rw [if_neg c3, if_neg c3, t1]
      cases textR s n (a + i + 1) with
      | none => rfl
      | some r => rfl
end
theorem tail_bt {s : ByteArray} {a : Int} (h0 : 0 ≤ a) (ha : a ≤ (s.size : Int)) : ∀ x, 0 ≤ x → bt (s.extract a.toNat s.size) x = bt s (a + x) := by
  intro x hx
  by_cases c : a + x < (s.size : Int)
  · have h := Ub.sub_bt (s := s) h0 (Int.le_refl (s.size : Int)) hx c
    rw [Int.toNat_natCast] at h
    exact h
  · rw [Tp.bt_out (s := s) (by omega), Tp.bt_out (by rw [ByteArray.size_extract]; omega)]
theorem tail_size {s : ByteArray} {a : Int} (h0 : 0 ≤ a) (ha : a ≤ (s.size : Int)) : ((s.extract a.toNat s.size).size : Int) = (s.size : Int) - a := by
  rw [ByteArray.size_extract]; omega
theorem tail_cut {u : ByteArray} {i j : Int} (h0 : 0 ≤ i) (h1 : i ≤ j) (h2 : j ≤ (u.size : Int)) : (u.extract i.toNat u.size).extract 0 (j - i).toNat = u.extract i.toNat j.toNat := by
  rw [ByteArray.extract_extract, show min (i.toNat + (j - i).toNat) u.size = j.toNat by omega]
  rfl
theorem strR_tail {s : ByteArray} {a : Int} (h0 : 0 ≤ a) (ha : a < (s.size : Int)) {l : List Int} {p : Bool} {j : Int} (h : strR s (a + 1) = some (l, p, j)) : strR (s.extract a.toNat s.size) 1 = some (l, p, j - a) := by
  have hz := tail_size h0 (Int.le_of_lt ha)
  unfold strR at h ⊢
  rw [textR_tail h0 (tail_bt h0 (Int.le_of_lt ha)) hz _ 1 (by decide), hz, show (((s.size : Int) - a - 1).toNat + 1) = (((s.size : Int) - (a + 1)).toNat + 1) by omega, h]
  rfl
set_option maxRecDepth 100000 in
set_option maxHeartbeats 8000000 in
theorem exists_walk (k : Int) (hk : k ≠ 0) (a b c d f : Value) (w : World) : Calls Tryz.prog 43 #[.agg #[.int .i64 k, a, b, c, d, f]] w fun e w' => e = .returned (.bool true) ∧ Below w.heap.size w w' := by
  have d0 : (k = 0) = False := eq_false hk
  have d1 : (k != 0) = true := bne_iff_ne.mpr hk
  have HB := Aside0.mk ((Below.refl w.heap.size w).alloc (Nat.le_refl _) (Obj.cells #[.int .i64 k, a, b, c, d, f] 50))
  clear hk
  go_enter Tryz.func43, Tryz.ntmps43
  go_wp2
  go_ret
  exact ⟨rfl, HB.out⟩
set_option maxRecDepth 100000 in
set_option maxHeartbeats 8000000 in
theorem parse_str (u : ByteArray) (hs : (u.size : Int) ≤ 70000) (i0 : Int) (h0 : 0 ≤ i0) (hB : ∀ q, 0 ≤ q → q < i0 → bt u q ≤ 32 ∧ 0 ≤ bt u q) (hq : bt u i0 = 34) {l : List Int} {p : Bool} {j : Int} (hR : strR u (i0 + 1) = some (l, p, j)) (w : World) :
    Calls Tryz.prog 24 #[.string u] w fun e w' => ∃ o, e = .returned (.agg #[.int .i64 3, .string (u.extract i0.toNat j.toNat), .string o, .float .f64 0, .int .i64 i0, .slice none 0 0]) ∧ (p = true → o = strOfNums l) ∧ Below w.heap.size w w' := by
  have HS := Aside0.mk hs
  have HI0 := Aside0.mk h0
  have HBL := Aside0.mk hB
  have HQ := Aside0.mk hq
  clear hs hB hq h0
  have HR := Aside0.mk (strR_tail HI0.out (lt_of_bt (by rw [HQ.out]; decide)) hR)
  have HLT := Aside0.mk (lt_of_bt (s := u) (i := i0) (by rw [HQ.out]; decide))
  clear hR
  go_enter Tryz.func24, Tryz.ntmps24
  go_wp2
  obtain ⟨W1, hW1⟩ : ∃ W1, (w.alloc (.cells #[.int .i64 0, .string ⟨#[]⟩, .string ⟨#[]⟩, .float .f64 0, .int .i64 0, .slice none 0 0] 50)).alloc (.cells #[.int .i64 0, .string ⟨#[]⟩, .string ⟨#[]⟩, .float .f64 0, .int .i64 0, .slice none 0 0] 50) = W1 := ⟨_, rfl⟩
  rw [hW1]
  obtain ⟨rb, hrb⟩ : ∃ rb, w.heap.size = rb := ⟨_, rfl⟩
  obtain ⟨vb, hvb⟩ : ∃ vb, rb + 1 = vb := ⟨_, rfl⟩
  rw [hrb, hvb]
  have HX1 : Aside0 (W1.heap[rb]? = some (.cells #[.int .i64 0, .string ⟨#[]⟩, .string ⟨#[]⟩, .float .f64 0, .int .i64 0, .slice none 0 0] 50 (0, 0)) ∧ W1.heap[vb]? = some (.cells #[.int .i64 0, .string ⟨#[]⟩, .string ⟨#[]⟩, .float .f64 0, .int .i64 0, .slice none 0 0] 50 (0, 0)) ∧ Below rb w W1) := ⟨by
    rw [← hW1, ← hvb, ← hrb]
    refine ⟨blk_alloc (heap_alloc_new w _) _, ?_, (Below.alloc ((Below.refl _ _).alloc (by omega) _) (by simp) _)⟩
    have := heap_alloc_new (w.alloc (.cells #[.int .i64 0, .string ⟨#[]⟩, .string ⟨#[]⟩, .float .f64 0, .int .i64 0, .slice none 0 0] 50)) (.cells #[.int .i64 0, .string ⟨#[]⟩, .string ⟨#[]⟩, .float .f64 0, .int .i64 0, .slice none 0 0] 50)
    simpa using this⟩
  have HRV : Aside0 (rb < vb ∧ w.heap.size = rb) := ⟨by omega⟩
  clear hW1 hrb hvb
  go_loopg [4] u.size (fun kq x4 wr => ∃ (i : Int), x4 = .int .i64 i ∧ Aside0 (0 ≤ i ∧ i ≤ i0 ∧ (kq : Int) ≥ (u.size : Int) - i) ∧ wr = W1)
  case atStart => exact ⟨0, rfl, ⟨by have := HI0.out; omega⟩, rfl⟩
  case round =>
    obtain ⟨i, rfl, HI, rfl⟩ := hrel
    have p1 : (0 : Int) ≤ i := HI.out.1
    have p4 : i ≤ 70000 := by have := HS.out; have := HI.out; have := HLT.out; omega
    have q1 : (i < (u.size : Int)) = True := eq_true (by have := HI.out; have := HLT.out; omega)
    have c1 : decide (i < (u.size : Int)) = true := decide_eq_true (by have := HI.out; have := HLT.out; omega)
    have hx2 := bt_at u i
    by_cases ce : i = i0
    · have hq := HQ.out
      rw [← ce] at hq
      rw [hq] at hx2
      have HE := Aside0.mk ce
      have hc := HX1.out.2.1
      have q2 : (i ≤ (u.size : Int)) = True := eq_true (by have := HI.out; have := HLT.out; omega)
      have HTS := Aside0.mk (fun W => tostr_walk (u.extract i.toNat u.size) (by have := tail_size p1 (of_eq_true q2); have := HS.out; omega) (by rw [tail_bt p1 (of_eq_true q2) 0 (by decide), Int.add_zero]; exact hq) (by have h := HR.out; rw [← ce] at h; exact h) W)
      have t0 := (blk_cell hc 0).trans (rfl : _ = some (Value.int .i64 0))
      have f0 := blk_frozen hc 0
      have HV := Aside0.mk (show (wr.setCell ⟨vb, 0, none⟩ (.int .i64 3)).heap[vb]? = some (.cells #[.int .i64 3, .string ⟨#[]⟩, .string ⟨#[]⟩, .float .f64 0, .int .i64 0, .slice none 0 0] 50 (0, 0)) by simpa using blk_set hc 0 (.int .i64 3))
      have HRR := Aside0.mk (show (wr.setCell ⟨vb, 0, none⟩ (.int .i64 3)).heap[rb]? = some (.cells #[.int .i64 0, .string ⟨#[]⟩, .string ⟨#[]⟩, .float .f64 0, .int .i64 0, .slice none 0 0] 50 (0, 0)) from blk_far HX1.out.1 (by have := HRV.out; simp; omega) _)
      have HBB := Aside0.mk (show Below rb w (wr.setCell ⟨vb, 0, none⟩ (.int .i64 3)) from HX1.out.2.2.setCell (by have := HRV.out; simp; omega) _)
      clear ce hq hc
      go_wp2_with fail
      refine (HTS.out _).mono ?_
      rintro e w5 ⟨so, rfl, hso, hbe⟩
      have hv5 := blk_below HV.out hbe
      have hr5 := blk_below HRR.out hbe
      have t1 := (blk_cell hv5 1).trans (rfl : _ = some (Value.string ⟨#[]⟩))
      have f1 := blk_frozen hv5 1
      have t2 := (blk_cell hv5 2).trans (rfl : _ = some (Value.string ⟨#[]⟩))
      have f2 := blk_frozen hv5 2
      have v0 := (blk_cell hv5 0).trans (rfl : _ = some (Value.int .i64 3))
      have v3 := (blk_cell hv5 3).trans (rfl : _ = some (Value.float .f64 0))
      have v4 := (blk_cell hv5 4).trans (rfl : _ = some (Value.int .i64 0))
      have v5 := (blk_cell hv5 5).trans (rfl : _ = some (Value.slice none 0 0))
      have HV5 := Aside0.mk hv5
      have HR5 := Aside0.mk hr5
      have HO := Aside0.mk hso
      have HB5 := Aside0.mk (below_then HBB.out (by have := HRV.out; have := HBB.out.size; simp at this ⊢; omega) hbe)
      clear hv5 hr5 hso hbe t0 f0 HTS
      go_wp2_with fail
      refine (exists_walk 3 (by decide) _ _ _ _ _ _).mono ?_
      rintro e w6 ⟨rfl, hbe⟩
      have HV6 := Aside0.mk (blk_below (show ((w5.setCell ⟨vb, 1, none⟩ (.string ((u.extract i.toNat u.size).extract 0 (j - i).toNat))).setCell ⟨vb, 2, none⟩ (.string so)).heap[vb]? = some (.cells #[.int .i64 3, .string ((u.extract i.toNat u.size).extract 0 (j - i).toNat), .string so, .float .f64 0, .int .i64 0, .slice none 0 0] 50 (0, 0)) by
        have h := blk_set HV5.out 1 (.string ((u.extract i.toNat u.size).extract 0 (j - i).toNat))
        have h2 := blk_set h 2 (.string so)
        simpa using h2) hbe)
      have HR6 := Aside0.mk (blk_below (blk_far (blk_far HR5.out (p := ⟨vb, 1, none⟩) (by have := HRV.out; simp; omega) (.string ((u.extract i.toNat u.size).extract 0 (j - i).toNat))) (p := ⟨vb, 2, none⟩) (by have := HRV.out; simp; omega) (.string so)) hbe)
      have HB6 := Aside0.mk (below_then ((HB5.out.setCell (p := ⟨vb, 1, none⟩) (by have := HRV.out; simp; omega) _).setCell (p := ⟨vb, 2, none⟩) (by have := HRV.out; simp; omega) _) (by have := HB5.out.size; have := HRV.out; simp; omega) hbe)
      have f4 := blk_frozen HV6.out 4
      have x4 := (blk_cell HV6.out 4).trans (rfl : _ = some (Value.int .i64 0))
      clear hbe t1 f1 t2 f2 v0 v3 v4 v5
      go_upto_region 45 with (fail)
      have hv7 : (w6.setCell ⟨vb, 4, none⟩ (.int .i64 i)).heap[vb]? = some (.cells #[.int .i64 3, .string ((u.extract i.toNat u.size).extract 0 (j - i).toNat), .string so, .float .f64 0, .int .i64 i, .slice none 0 0] 50 (0, 0)) := by simpa using blk_set HV6.out 4 (.int .i64 i)
      have hr7 := blk_far HR6.out (p := ⟨vb, 4, none⟩) (by have := HRV.out; simp; omega) (.int .i64 i)
      have hb7 := HB6.out.setCell (p := ⟨vb, 4, none⟩) (by have := HRV.out; simp; omega) (.int .i64 i)
      obtain ⟨W7, hW7⟩ : ∃ W7, w6.setCell ⟨vb, 4, none⟩ (.int .i64 i) = W7 := ⟨_, rfl⟩
      rw [hW7] at hv7 hr7 hb7 ⊢
      have HB7 := Aside0.mk hb7
      have v0 := (blk_cell hv7 0).trans (rfl : _ = some (Value.int .i64 3))
      have v1 := (blk_cell hv7 1).trans (rfl : _ = some (Value.string ((u.extract i.toNat u.size).extract 0 (j - i).toNat)))
      have v2 := (blk_cell hv7 2).trans (rfl : _ = some (Value.string so))
      have v3 := (blk_cell hv7 3).trans (rfl : _ = some (Value.float .f64 0))
      have v4 := (blk_cell hv7 4).trans (rfl : _ = some (Value.int .i64 i))
      have v5 := (blk_cell hv7 5).trans (rfl : _ = some (Value.slice none 0 0))
      have r0 := (blk_cell hr7 0).trans (rfl : _ = some (Value.int .i64 0))
      have r1 := (blk_cell hr7 1).trans (rfl : _ = some (Value.string ⟨#[]⟩))
      have r2 := (blk_cell hr7 2).trans (rfl : _ = some (Value.string ⟨#[]⟩))
      have r3 := (blk_cell hr7 3).trans (rfl : _ = some (Value.float .f64 0))
      have r4 := (blk_cell hr7 4).trans (rfl : _ = some (Value.int .i64 0))
      have r5 := (blk_cell hr7 5).trans (rfl : _ = some (Value.slice none 0 0))
      have g0 := blk_frozen hr7 0
      have g1 := blk_frozen hr7 1
      have g2 := blk_frozen hr7 2
      have g3 := blk_frozen hr7 3
      have g4 := blk_frozen hr7 4
      have g5 := blk_frozen hr7 5
      have m1 : ¬ rb = vb := by have := HRV.out; omega
      have m2 : ¬ vb = rb := by have := HRV.out; omega
      clear hW7 hv7 hr7 hb7 x4 f4
      go_wp2_with fail
      refine bodyPost_ret (v := .agg #[.int .i64 3, .string ((u.extract i.toNat u.size).extract 0 (j - i).toNat), .string so, .float .f64 0, .int .i64 i, .slice none 0 0]) (by simp [results, Tryz.results24, go_sem, r0, r1, r2, r3, r4, r5]) rfl ?_
      have hle := strR_le _ _ HR.out
      have hts := tail_size p1 (of_eq_true q2)
      have hE := HE.out
      refine ⟨so, ?_, HO.out, ?_⟩
      · rw [hE, tail_cut HI0.out (by omega) (by rw [hE] at hts; omega)]
      · have h := HB7.out
        have hrv := HRV.out.2
        rw [hrv]
        exact (((((h.setCell (by simp) _).setCell (by simp) _).setCell (by simp) _).setCell (by simp) _).setCell (by simp) _).setCell (by simp) _
    · have hb := HBL.out i p1 (by have := HI.out; omega)
      have d1 : (bt u i == 123) = false := beq_eq_false_iff_ne.mpr (by omega)
      have d2 : (bt u i == 91) = false := beq_eq_false_iff_ne.mpr (by omega)
      have d3 : decide (bt u i ≤ 32) = true := decide_eq_true hb.1
      have HE : Aside0 (i < i0) := ⟨by have := HI.out; omega⟩
      clear ce hb
      go_wp2
      go_roundg ((u.size : Int) - (i + 1)).toNat
      case measure => have := HI.out; have := HE.out; have := HLT.out; omega
      case rel => exact ⟨i + 1, (by first | rfl | (congr 1; omega)), ⟨by have := HI.out; have := HE.out; have := HLT.out; omega⟩, rfl⟩
end Go.Proofs.YtldfejbmdonaoaaGreatDoor.Gp
namespace Go.Proofs.YtldfejbmdonaoaaGreatDoor.Gv
open Go.RowKit YtldfejbmdonaoaaGreatDoorW.PrintWords YtldfejbmdonaoaaGreatDoorW.PrintLast YtldfejbmdonaoaaGreatDoorW.PrintMore Tp Te Gp
set_option linter.unusedVariables false
set_option linter.unusedSimpArgs false
theorem cell_b {w w' : World} (hb : Below w.drew.heap.size w.drew w') {a : Addr} {v : Value} (hc : w.cell? a = some v) : w'.cell? a = some v := (hb.cell (World.block_lt_of_cell? w a hc)).trans hc
theorem frozen_b {w w' : World} (hb : Below w.drew.heap.size w.drew w') {a : Addr} {v : Value} (hc : w.cell? a = some v) (hf : w.frozen? a = false) : w'.frozen? a = false := (hb.frozen (World.block_lt_of_cell? w a hc)).trans hf
end Go.Proofs.YtldfejbmdonaoaaGreatDoor.Gv