/- Joined by a program of mine from texts of this claim: La. -/
import Derived.Test.YtldfejbmdonaoaaDoorV44
import Derived.Test.YtldfejbmdonaoaaDoorV45
import Derived.Test.YtldfejbmdonaoaaDoorV34
import Derived.Test.YtldfejbmdonaoaaDoorV18
import Derived.BigRegion
import Derived.StillTailTactics
import Derived.RegionTactic
import Derived.Deep.CutBlock
import Derived.Deep.DeepCutAuto
namespace Go.Proofs.YtldfejbmdonaoaaDoor.La
open Go.RowKit YtldfejbmdonaoaaDoorW.PrintWords YtldfejbmdonaoaaDoorW.PrintLast YtldfejbmdonaoaaDoorW.PrintMore Tp Te Ts At Pz Nx Gp Gv Gn Sn Lp Ls Lq Lv
set_option linter.unusedVariables false
set_option linter.unusedSimpArgs false
theorem VTab.below {w w' : World} (h : VTab w) (hb : Below w.heap.size w w') : VTab w' := fun j hj => by
  have h1 := h j hj
  exact (hb.cell (World.block_lt_of_cell? w _ h1)).trans h1
def AnyPost (u : ByteArray) (p n : Int) (w : World) (e : Ending) (w' : World) : Prop :=
  ∃ (k : Int) (b : ByteArray) (c : Nat) (d : Int), e = .returned (.tuple #[.int .i64 n, .agg #[.int .i64 k, .string (u.extract p.toNat n.toNat), .string b, .float .f64 c, .int .i64 d, .slice none 0 0], .bool true]) ∧ Below w.heap.size w w'
set_option maxRecDepth 100000 in
set_option maxHeartbeats 8000000 in
theorem any_list (u : ByteArray) (i p n : Int) (hL : Lead2 u i p n) (hV : ListAt u p n) (w : World) (hT : VTab w) :
    Calls Tryd.prog 40 #[.string u, .int .i64 i, .bool true] w (AnyPost u p n w) := by
  have HL := Aside0.mk hL
  obtain ⟨RAW, hRAW⟩ : ∃ RAW, u.extract p.toNat n.toNat = RAW := ⟨_, rfl⟩
  have HRAW := Aside0.mk hRAW
  have HRS := Aside0.mk (show (RAW.size : Int) = n - p by rw [← hRAW, ByteArray.size_extract]; have := hL.lo; have := hL.le; have := hL.lt; have := hL.hi; omega)
  have HV := Aside0.mk hV
  have HT := Aside0.mk hT
  unfold AnyPost
  rw [hRAW]
  clear hL hRAW hV hT
  go_enter Tryd.func40, Tryd.ntmps40
  go_wp2_with fail
  obtain ⟨W1, hW1⟩ : ∃ W1, (w.alloc (.cells #[.int .i64 0, .string ⟨#[]⟩, .string ⟨#[]⟩, .float .f64 0, .int .i64 0, .slice none 0 0] 51)).alloc (.cells #[.int .i64 0, .string ⟨#[]⟩, .string ⟨#[]⟩, .float .f64 0, .int .i64 0, .slice none 0 0] 51) = W1 := ⟨_, rfl⟩
  rw [hW1]
  obtain ⟨rb, hrb⟩ : ∃ rb, w.heap.size = rb := ⟨_, rfl⟩
  obtain ⟨vb, hvb⟩ : ∃ vb, rb + 1 = vb := ⟨_, rfl⟩
  rw [hrb, hvb]
  have HX1 : Aside0 (W1.heap[vb]? = some (.cells #[.int .i64 0, .string ⟨#[]⟩, .string ⟨#[]⟩, .float .f64 0, .int .i64 0, .slice none 0 0] 51 (0, 0)) ∧ W1.heap[rb]? = some (.cells #[.int .i64 0, .string ⟨#[]⟩, .string ⟨#[]⟩, .float .f64 0, .int .i64 0, .slice none 0 0] 51 (0, 0)) ∧ Below rb w W1) := ⟨by
    rw [← hW1, ← hvb, ← hrb]
    refine ⟨?_, blk_alloc (heap_alloc_new w _) _, (Below.alloc ((Below.refl _ _).alloc (by omega) _) (by simp) _)⟩
    have := heap_alloc_new (w.alloc (.cells #[.int .i64 0, .string ⟨#[]⟩, .string ⟨#[]⟩, .float .f64 0, .int .i64 0, .slice none 0 0] 51)) (.cells #[.int .i64 0, .string ⟨#[]⟩, .string ⟨#[]⟩, .float .f64 0, .int .i64 0, .slice none 0 0] 51)
    simpa using this⟩
  have HRV : Aside0 (rb < vb ∧ w.heap.size = rb) := ⟨by omega⟩
  clear hW1 hrb hvb
  go_loopg [1] u.size (fun kq x1 wr => ∃ (x : Int), x1 = .int .i64 x ∧ Aside0 (i ≤ x ∧ x ≤ p ∧ (kq : Int) ≥ (u.size : Int) - x) ∧ wr = W1)
  case atStart => exact ⟨i, rfl, ⟨by have := HL.out.le; have := HL.out.lo; omega⟩, rfl⟩
  case round =>
    obtain ⟨x, rfl, HX, hwr⟩ := hrel
    subst wr
    have p1 : (0 : Int) ≤ x := by have := HX.out; have := HL.out.lo; omega
    have p3 : x < (u.size : Int) := by have := HX.out; have := HL.out.lt; have := HL.out.hi; omega
    have p4 : x ≤ 200000 := by have := HL.out.size; omega
    have q1 : (x < (u.size : Int)) = True := eq_true p3
    have c1 : decide (x < (u.size : Int)) = true := decide_eq_true p3
    have hx2 := bt_at u x
    clear p3
    by_cases ce : x = p
    · subst ce
      have c0 : 0 ≤ x := p1
      rcases HV.out.c with d1 | d1
      all_goals
        rw [d1] at hx2
        go_wp2_with fail
        refine (squash_walk u x n HL.out.size p1 HV.out.run _ (VTab.below HT.out (by rw [HRV.out.2]; exact HX1.out.2.2))).mono ?_
        rintro e w5 ⟨rfl, m, hm⟩
        rw [HRAW.out]
        have HV4 := Aside0.mk (show w5.heap[vb]? = some (.cells #[.int .i64 0, .string ⟨#[]⟩, .string ⟨#[]⟩, .float .f64 0, .int .i64 0, .slice none 0 0] 51 (0, 0)) by rw [hm]; exact HX1.out.1)
        have HR4 := Aside0.mk (show w5.heap[rb]? = some (.cells #[.int .i64 0, .string ⟨#[]⟩, .string ⟨#[]⟩, .float .f64 0, .int .i64 0, .slice none 0 0] 51 (0, 0)) by rw [hm]; exact HX1.out.2.1)
        have HB4 := Aside0.mk (show Below rb w w5 by rw [hm]; exact pw_below_drewN HX1.out.2.2 m)
        clear hm
        have s0 := (blk_cell HV4.out 0).trans (rfl : _ = some (Value.int .i64 0))
        have s1 := (blk_cell HV4.out 1).trans (rfl : _ = some (Value.string ⟨#[]⟩))
        have s4 := (blk_cell HV4.out 4).trans (rfl : _ = some (Value.int .i64 0))
        have f0 := blk_frozen HV4.out 0
        have f1 := blk_frozen HV4.out 1
        have f4 := blk_frozen HV4.out 4
        have z1 : 0 < RAW.size := by have := HRS.out; have := HL.out.lt; omega
        have z2 : decide (0 < RAW.size) = true := decide_eq_true z1
        go_upto_region 12 with (fail)
        have e1 := HB4.out
        obtain ⟨D, hD⟩ : ∃ D, wrap64 (n - (RAW.size : Int)) = D := ⟨_, rfl⟩
        rw [hD]
        obtain ⟨W5, hW5⟩ : ∃ W5, ((w5.setCell ⟨vb, 1, none⟩ (.string RAW)).setCell ⟨vb, 0, none⟩ (.int .i64 5)).setCell ⟨vb, 4, none⟩ (.int .i64 D) = W5 := ⟨_, rfl⟩
        rw [hW5]
        have HV5 := Aside0.mk (show W5.heap[vb]? = some (.cells #[.int .i64 5, .string RAW, .string ⟨#[]⟩, .float .f64 0, .int .i64 D, .slice none 0 0] 51 (0, 0)) by
          rw [← hW5]
          simpa using blk_set (blk_set (blk_set HV4.out 1 (.string RAW)) 0 (.int .i64 5)) 4 (.int .i64 D))
        have HR5 := Aside0.mk (show W5.heap[rb]? = some (.cells #[.int .i64 0, .string ⟨#[]⟩, .string ⟨#[]⟩, .float .f64 0, .int .i64 0, .slice none 0 0] 51 (0, 0)) by
          rw [← hW5]
          exact blk_far (blk_far (blk_far HR4.out (by have := HRV.out; simp; omega) _) (by have := HRV.out; simp; omega) _) (by have := HRV.out; simp; omega) _)
        have HB5 := Aside0.mk (show Below rb w W5 by
          rw [← hW5]
          exact ((HB4.out.setCell (by have := HRV.out; simp; omega) _).setCell (by have := HRV.out; simp; omega) _).setCell (by have := HRV.out; simp; omega) _)
        clear hW5 hD s0 s1 s4 f0 f1 f4 e1 z1 z2 hx2
        have v0 := (blk_cell HV5.out 0).trans (rfl : _ = some (Value.int .i64 5))
        have v1 := (blk_cell HV5.out 1).trans (rfl : _ = some (Value.string RAW))
        have v2 := (blk_cell HV5.out 2).trans (rfl : _ = some (Value.string ⟨#[]⟩))
        have v3 := (blk_cell HV5.out 3).trans (rfl : _ = some (Value.float .f64 0))
        have v4 := (blk_cell HV5.out 4).trans (rfl : _ = some (Value.int .i64 D))
        have v5 := (blk_cell HV5.out 5).trans (rfl : _ = some (Value.slice none 0 0))
        have r0 := (blk_cell HR5.out 0).trans (rfl : _ = some (Value.int .i64 0))
        have r1 := (blk_cell HR5.out 1).trans (rfl : _ = some (Value.string ⟨#[]⟩))
        have r2 := (blk_cell HR5.out 2).trans (rfl : _ = some (Value.string ⟨#[]⟩))
        have r3 := (blk_cell HR5.out 3).trans (rfl : _ = some (Value.float .f64 0))
        have r4 := (blk_cell HR5.out 4).trans (rfl : _ = some (Value.int .i64 0))
        have r5 := (blk_cell HR5.out 5).trans (rfl : _ = some (Value.slice none 0 0))
        have g0 := blk_frozen HR5.out 0
        have g1 := blk_frozen HR5.out 1
        have g2 := blk_frozen HR5.out 2
        have g3 := blk_frozen HR5.out 3
        have g4 := blk_frozen HR5.out 4
        have g5 := blk_frozen HR5.out 5
        have m1 : ¬ rb = vb := by have := HRV.out; omega
        have m2 : ¬ vb = rb := by have := HRV.out; omega
        go_still_tail 3, (by kernel_rfl)
        change wpList _ _ _ _ _ W5.drew
        go_wp2
        have hr8 : ((((((W5.setCell ⟨rb, 0, none⟩ (.int .i64 5)).setCell ⟨rb, 1, none⟩ (.string RAW)).setCell ⟨rb, 2, none⟩ (.string ⟨#[]⟩)).setCell ⟨rb, 3, none⟩ (.float .f64 0)).setCell ⟨rb, 4, none⟩ (.int .i64 D)).setCell ⟨rb, 5, none⟩ (.slice none 0 0)).drew.heap[rb]? = some (.cells #[.int .i64 5, .string RAW, .string ⟨#[]⟩, .float .f64 0, .int .i64 D, .slice none 0 0] 51 (0, 0)) := by
          refine blk_drew ?_
          simpa using blk_set (blk_set (blk_set (blk_set (blk_set (blk_set HR5.out 0 (.int .i64 5)) 1 (.string RAW)) 2 (.string ⟨#[]⟩)) 3 (.float .f64 0)) 4 (.int .i64 D)) 5 (.slice none 0 0)
        have HB8 : Below rb w ((((((W5.setCell ⟨rb, 0, none⟩ (.int .i64 5)).setCell ⟨rb, 1, none⟩ (.string RAW)).setCell ⟨rb, 2, none⟩ (.string ⟨#[]⟩)).setCell ⟨rb, 3, none⟩ (.float .f64 0)).setCell ⟨rb, 4, none⟩ (.int .i64 D)).setCell ⟨rb, 5, none⟩ (.slice none 0 0)).drew := ((((((HB5.out.setCell (by simp) _).setCell (by simp) _).setCell (by simp) _).setCell (by simp) _).setCell (by simp) _).setCell (by simp) _).drew
        obtain ⟨W8, hW8⟩ : ∃ W8, ((((((W5.setCell ⟨rb, 0, none⟩ (.int .i64 5)).setCell ⟨rb, 1, none⟩ (.string RAW)).setCell ⟨rb, 2, none⟩ (.string ⟨#[]⟩)).setCell ⟨rb, 3, none⟩ (.float .f64 0)).setCell ⟨rb, 4, none⟩ (.int .i64 D)).setCell ⟨rb, 5, none⟩ (.slice none 0 0)).drew = W8 := ⟨_, rfl⟩
        rw [hW8] at hr8 HB8 ⊢
        have y0 := (blk_cell hr8 0).trans (rfl : _ = some (Value.int .i64 5))
        have y1 := (blk_cell hr8 1).trans (rfl : _ = some (Value.string RAW))
        have y2 := (blk_cell hr8 2).trans (rfl : _ = some (Value.string ⟨#[]⟩))
        have y3 := (blk_cell hr8 3).trans (rfl : _ = some (Value.float .f64 0))
        have y4 := (blk_cell hr8 4).trans (rfl : _ = some (Value.int .i64 D))
        have y5 := (blk_cell hr8 5).trans (rfl : _ = some (Value.slice none 0 0))
        clear hW8 hr8 v0 v1 v2 v3 v4 v5 r0 r1 r2 r3 r4 r5 g0 g1 g2 g3 g4 g5
        refine bodyPost_ret (v := .tuple #[.int .i64 n, .agg #[.int .i64 5, .string RAW, .string ⟨#[]⟩, .float .f64 0, .int .i64 D, .slice none 0 0], .bool true]) (by simp [results, Tryd.results40, go_sem, y0, y1, y2, y3, y4, y5]) rfl ?_
        exact ⟨_, _, _, _, rfl, by rw [HRV.out.2]; exact HB8⟩
    · have hb := HL.out.blank x HX.out.1 (by have := HX.out; omega)
      have d1 : (bt u x == 123) = false := beq_eq_false_iff_ne.mpr (by omega)
      have d2 : (bt u x == 91) = false := beq_eq_false_iff_ne.mpr (by omega)
      have d3 : decide (bt u x ≤ 32) = true := decide_eq_true hb
      have HEN : Aside0 (x < p) := ⟨by have := HX.out; omega⟩
      clear ce hb
      go_wp2
      go_roundg ((u.size : Int) - (x + 1)).toNat
      case measure => have := HX.out; have := HEN.out; have := HL.out.lt; have := HL.out.hi; omega
      case rel => exact ⟨x + 1, (by first | rfl | (congr 1; omega)), ⟨by have := HX.out; have := HEN.out; omega⟩, rfl⟩
set_option maxRecDepth 100000 in
set_option maxHeartbeats 8000000 in
theorem any_str (u : ByteArray) (i p n : Int) (hL : Lead2 u i p n) (hV : StrAt u p n) (w : World) :
    Calls Tryd.prog 40 #[.string u, .int .i64 i, .bool true] w (AnyPost u p n w) := by
  have HL := Aside0.mk hL
  obtain ⟨RAW, hRAW⟩ : ∃ RAW, u.extract p.toNat n.toNat = RAW := ⟨_, rfl⟩
  have HRAW := Aside0.mk hRAW
  have HRS := Aside0.mk (show (RAW.size : Int) = n - p by rw [← hRAW, ByteArray.size_extract]; have := hL.lo; have := hL.le; have := hL.lt; have := hL.hi; omega)
  have HV := Aside0.mk hV
  unfold AnyPost
  rw [hRAW]
  clear hL hRAW hV
  go_enter Tryd.func40, Tryd.ntmps40
  go_wp2_with fail
  obtain ⟨W1, hW1⟩ : ∃ W1, (w.alloc (.cells #[.int .i64 0, .string ⟨#[]⟩, .string ⟨#[]⟩, .float .f64 0, .int .i64 0, .slice none 0 0] 51)).alloc (.cells #[.int .i64 0, .string ⟨#[]⟩, .string ⟨#[]⟩, .float .f64 0, .int .i64 0, .slice none 0 0] 51) = W1 := ⟨_, rfl⟩
  rw [hW1]
  obtain ⟨rb, hrb⟩ : ∃ rb, w.heap.size = rb := ⟨_, rfl⟩
  obtain ⟨vb, hvb⟩ : ∃ vb, rb + 1 = vb := ⟨_, rfl⟩
  rw [hrb, hvb]
  have HX1 : Aside0 (W1.heap[vb]? = some (.cells #[.int .i64 0, .string ⟨#[]⟩, .string ⟨#[]⟩, .float .f64 0, .int .i64 0, .slice none 0 0] 51 (0, 0)) ∧ W1.heap[rb]? = some (.cells #[.int .i64 0, .string ⟨#[]⟩, .string ⟨#[]⟩, .float .f64 0, .int .i64 0, .slice none 0 0] 51 (0, 0)) ∧ Below rb w W1) := ⟨by
    rw [← hW1, ← hvb, ← hrb]
    refine ⟨?_, blk_alloc (heap_alloc_new w _) _, (Below.alloc ((Below.refl _ _).alloc (by omega) _) (by simp) _)⟩
    have := heap_alloc_new (w.alloc (.cells #[.int .i64 0, .string ⟨#[]⟩, .string ⟨#[]⟩, .float .f64 0, .int .i64 0, .slice none 0 0] 51)) (.cells #[.int .i64 0, .string ⟨#[]⟩, .string ⟨#[]⟩, .float .f64 0, .int .i64 0, .slice none 0 0] 51)
    simpa using this⟩
  have HRV : Aside0 (rb < vb ∧ w.heap.size = rb) := ⟨by omega⟩
  clear hW1 hrb hvb
  go_loopg [1] u.size (fun kq x1 wr => ∃ (x : Int), x1 = .int .i64 x ∧ Aside0 (i ≤ x ∧ x ≤ p ∧ (kq : Int) ≥ (u.size : Int) - x) ∧ wr = W1)
  case atStart => exact ⟨i, rfl, ⟨by have := HL.out.le; have := HL.out.lo; omega⟩, rfl⟩
  case round =>
    obtain ⟨x, rfl, HX, hwr⟩ := hrel
    subst wr
    have p1 : (0 : Int) ≤ x := by have := HX.out; have := HL.out.lo; omega
    have p3 : x < (u.size : Int) := by have := HX.out; have := HL.out.lt; have := HL.out.hi; omega
    have p4 : x ≤ 200000 := by have := HL.out.size; omega
    have q1 : (x < (u.size : Int)) = True := eq_true p3
    have c1 : decide (x < (u.size : Int)) = true := decide_eq_true p3
    have hx2 := bt_at u x
    clear p3
    by_cases ce : x = p
    · subst ce
      have d0 := HV.out.c
      rw [d0] at hx2
      have HSW := Aside0.mk (fun W => show Calls Tryd.prog 48 #[.string u, .int .i64 (x + 1)] W fun e W' => ∃ b : Bool, e = .returned (.tuple #[.int .i64 n, .string RAW, .bool b, .bool true]) ∧ ∃ m, W' = W.drewN m by
        have h := str_walk u (x + 1) (n - 1) HL.out.size HV.out.end_ W
        unfold StrPart at h
        rw [show n - 1 + 1 = n by omega, show x + 1 - 1 = x by omega, HRAW.out] at h
        exact h)
      have HBO := Aside0.mk (show Ub.BodyW (RAW.extract 1 (n - x - 1).toNat) 0 by have h := HV.out.body; rw [HRAW.out] at h; exact h)
      have p5 : x + 1 ≤ 200001 := by omega
      clear d0
      go_wp2_with fail
      refine (HSW.out _).mono ?_
      rintro e w5 ⟨bz, rfl, m, hm⟩
      have HV4 := Aside0.mk (show w5.heap[vb]? = some (.cells #[.int .i64 0, .string ⟨#[]⟩, .string ⟨#[]⟩, .float .f64 0, .int .i64 0, .slice none 0 0] 51 (0, 0)) by rw [hm]; exact HX1.out.1)
      have HR4 := Aside0.mk (show w5.heap[rb]? = some (.cells #[.int .i64 0, .string ⟨#[]⟩, .string ⟨#[]⟩, .float .f64 0, .int .i64 0, .slice none 0 0] 51 (0, 0)) by rw [hm]; exact HX1.out.2.1)
      have HB4 := Aside0.mk (show Below rb w w5 by rw [hm]; exact pw_below_drewN HX1.out.2.2 m)
      clear hm hx2
      have s0 := (blk_cell HV4.out 0).trans (rfl : _ = some (Value.int .i64 0))
      have s1 := (blk_cell HV4.out 1).trans (rfl : _ = some (Value.string ⟨#[]⟩))
      have s2 := (blk_cell HV4.out 2).trans (rfl : _ = some (Value.string ⟨#[]⟩))
      have f0 := blk_frozen HV4.out 0
      have f1 := blk_frozen HV4.out 1
      have f2 := blk_frozen HV4.out 2
      have z1 : (2 : Int) ≤ RAW.size := by have := HRS.out; have := HV.out.end_.le; omega
      have z2 : 2 ≤ RAW.size := by omega
      have z3 : RAW.size ≤ 70000 := by have := HRS.out; have := HL.out.short; omega
      have z4 : (1 ≤ (RAW.size : Int) - 1) = True := eq_true (by omega)
      have z5 : (0 ≤ (RAW.size : Int) - 1) = True := eq_true (by omega)
      have z6 : ((RAW.size : Int) - 1 ≤ (RAW.size : Int)) = True := eq_true (by omega)
      have hbz : (n - x - 1).toNat = RAW.size - 1 := by have := HRS.out; omega
      have HBO2 := Aside0.mk (show Ub.BodyW (RAW.extract 1 (RAW.size - 1)) 0 by rw [← hbz]; exact HBO.out)
      have HUE := Aside0.mk (fun W => Uq.unescape_walk (RAW.extract 1 (RAW.size - 1)) (by rw [ByteArray.size_extract]; omega) HBO2.out W)
      obtain ⟨WA, hWA⟩ : ∃ WA, (w5.setCell ⟨vb, 0, none⟩ (.int .i64 3)).setCell ⟨vb, 1, none⟩ (.string RAW) = WA := ⟨_, rfl⟩
      have HVA := Aside0.mk (show WA.heap[vb]? = some (.cells #[.int .i64 3, .string RAW, .string ⟨#[]⟩, .float .f64 0, .int .i64 0, .slice none 0 0] 51 (0, 0)) by
        rw [← hWA]
        simpa using blk_set (blk_set HV4.out 0 (.int .i64 3)) 1 (.string RAW))
      have HRA := Aside0.mk (show WA.heap[rb]? = some (.cells #[.int .i64 0, .string ⟨#[]⟩, .string ⟨#[]⟩, .float .f64 0, .int .i64 0, .slice none 0 0] 51 (0, 0)) by
        rw [← hWA]
        exact blk_far (blk_far HR4.out (by have := HRV.out; simp; omega) _) (by have := HRV.out; simp; omega) _)
      have HBA := Aside0.mk (show Below rb w WA by
        rw [← hWA]
        exact (HB4.out.setCell (by have := HRV.out; simp; omega) _).setCell (by have := HRV.out; simp; omega) _)
      have HWA := Aside0.mk hWA
      clear hWA hbz
      cases bz with
      | true =>
        go_wp2_with fail
        rw [HWA.out]
        refine (HUE.out _).mono ?_
        rintro e w6 ⟨so, rfl, _, hbe⟩
        have HV6 := Aside0.mk (blk_below HVA.out hbe)
        have HR6 := Aside0.mk (blk_below HRA.out hbe)
        have HB6 := Aside0.mk (below_then HBA.out (by have := HBA.out.size; have := HRV.out; omega) hbe)
        have s3 := (blk_cell HV6.out 2).trans (rfl : _ = some (Value.string ⟨#[]⟩))
        have f3 := blk_frozen HV6.out 2
        clear hbe s0 s1 s2 f0 f1 f2
        go_upto_region 47 with (fail)
        obtain ⟨W5, hW5⟩ : ∃ W5, w6.setCell ⟨vb, 2, none⟩ (.string so) = W5 := ⟨_, rfl⟩
        rw [hW5]
        have HV5 := Aside0.mk (show W5.heap[vb]? = some (.cells #[.int .i64 3, .string RAW, .string so, .float .f64 0, .int .i64 0, .slice none 0 0] 51 (0, 0)) by
          rw [← hW5]
          simpa using blk_set HV6.out 2 (.string so))
        have HR5 := Aside0.mk (show W5.heap[rb]? = some (.cells #[.int .i64 0, .string ⟨#[]⟩, .string ⟨#[]⟩, .float .f64 0, .int .i64 0, .slice none 0 0] 51 (0, 0)) by
          rw [← hW5]
          exact blk_far HR6.out (by have := HRV.out; simp; omega) _)
        have HB5 := Aside0.mk (show Below rb w W5 by
          rw [← hW5]
          exact HB6.out.setCell (by have := HRV.out; simp; omega) _)
        clear hW5 s3 f3 z1 z2 z3 z4 z5 z6
        have v0 := (blk_cell HV5.out 0).trans (rfl : _ = some (Value.int .i64 3))
        have v1 := (blk_cell HV5.out 1).trans (rfl : _ = some (Value.string RAW))
        have v2 := (blk_cell HV5.out 2).trans (rfl : _ = some (Value.string so))
        have v3 := (blk_cell HV5.out 3).trans (rfl : _ = some (Value.float .f64 0))
        have v4 := (blk_cell HV5.out 4).trans (rfl : _ = some (Value.int .i64 0))
        have v5 := (blk_cell HV5.out 5).trans (rfl : _ = some (Value.slice none 0 0))
        have r0 := (blk_cell HR5.out 0).trans (rfl : _ = some (Value.int .i64 0))
        have r1 := (blk_cell HR5.out 1).trans (rfl : _ = some (Value.string ⟨#[]⟩))
        have r2 := (blk_cell HR5.out 2).trans (rfl : _ = some (Value.string ⟨#[]⟩))
        have r3 := (blk_cell HR5.out 3).trans (rfl : _ = some (Value.float .f64 0))
        have r4 := (blk_cell HR5.out 4).trans (rfl : _ = some (Value.int .i64 0))
        have r5 := (blk_cell HR5.out 5).trans (rfl : _ = some (Value.slice none 0 0))
        have g0 := blk_frozen HR5.out 0
        have g1 := blk_frozen HR5.out 1
        have g2 := blk_frozen HR5.out 2
        have g3 := blk_frozen HR5.out 3
        have g4 := blk_frozen HR5.out 4
        have g5 := blk_frozen HR5.out 5
        have m1 : ¬ rb = vb := by have := HRV.out; omega
        have m2 : ¬ vb = rb := by have := HRV.out; omega
        go_still_tail 3, (by kernel_rfl)
        change wpList _ _ _ _ _ W5.drew
        go_wp2
        have hr8 : ((((((W5.setCell ⟨rb, 0, none⟩ (.int .i64 3)).setCell ⟨rb, 1, none⟩ (.string RAW)).setCell ⟨rb, 2, none⟩ (.string so)).setCell ⟨rb, 3, none⟩ (.float .f64 0)).setCell ⟨rb, 4, none⟩ (.int .i64 0)).setCell ⟨rb, 5, none⟩ (.slice none 0 0)).drew.heap[rb]? = some (.cells #[.int .i64 3, .string RAW, .string so, .float .f64 0, .int .i64 0, .slice none 0 0] 51 (0, 0)) := by
          refine blk_drew ?_
          simpa using blk_set (blk_set (blk_set (blk_set (blk_set (blk_set HR5.out 0 (.int .i64 3)) 1 (.string RAW)) 2 (.string so)) 3 (.float .f64 0)) 4 (.int .i64 0)) 5 (.slice none 0 0)
        have HB8 : Below rb w ((((((W5.setCell ⟨rb, 0, none⟩ (.int .i64 3)).setCell ⟨rb, 1, none⟩ (.string RAW)).setCell ⟨rb, 2, none⟩ (.string so)).setCell ⟨rb, 3, none⟩ (.float .f64 0)).setCell ⟨rb, 4, none⟩ (.int .i64 0)).setCell ⟨rb, 5, none⟩ (.slice none 0 0)).drew := ((((((HB5.out.setCell (by simp) _).setCell (by simp) _).setCell (by simp) _).setCell (by simp) _).setCell (by simp) _).setCell (by simp) _).drew
        obtain ⟨W8, hW8⟩ : ∃ W8, ((((((W5.setCell ⟨rb, 0, none⟩ (.int .i64 3)).setCell ⟨rb, 1, none⟩ (.string RAW)).setCell ⟨rb, 2, none⟩ (.string so)).setCell ⟨rb, 3, none⟩ (.float .f64 0)).setCell ⟨rb, 4, none⟩ (.int .i64 0)).setCell ⟨rb, 5, none⟩ (.slice none 0 0)).drew = W8 := ⟨_, rfl⟩
        rw [hW8] at hr8 HB8 ⊢
        have y0 := (blk_cell hr8 0).trans (rfl : _ = some (Value.int .i64 3))
        have y1 := (blk_cell hr8 1).trans (rfl : _ = some (Value.string RAW))
        have y2 := (blk_cell hr8 2).trans (rfl : _ = some (Value.string so))
        have y3 := (blk_cell hr8 3).trans (rfl : _ = some (Value.float .f64 0))
        have y4 := (blk_cell hr8 4).trans (rfl : _ = some (Value.int .i64 0))
        have y5 := (blk_cell hr8 5).trans (rfl : _ = some (Value.slice none 0 0))
        clear hW8 hr8 v0 v1 v2 v3 v4 v5 r0 r1 r2 r3 r4 r5 g0 g1 g2 g3 g4 g5
        refine bodyPost_ret (v := .tuple #[.int .i64 n, .agg #[.int .i64 3, .string RAW, .string so, .float .f64 0, .int .i64 0, .slice none 0 0], .bool true]) (by simp [results, Tryd.results40, go_sem, y0, y1, y2, y3, y4, y5]) rfl ?_
        exact ⟨_, _, _, _, rfl, by rw [HRV.out.2]; exact HB8⟩
      | false =>
        go_upto_region 47 with (fail)
        rw [HWA.out]
        obtain ⟨so, hso⟩ : ∃ so, RAW.extract 1 (RAW.size - 1) = so := ⟨_, rfl⟩
        rw [hso]
        obtain ⟨W5, hW5⟩ : ∃ W5, WA.setCell ⟨vb, 2, none⟩ (.string so) = W5 := ⟨_, rfl⟩
        rw [hW5]
        have HV5 := Aside0.mk (show W5.heap[vb]? = some (.cells #[.int .i64 3, .string RAW, .string so, .float .f64 0, .int .i64 0, .slice none 0 0] 51 (0, 0)) by
          rw [← hW5]
          simpa using blk_set HVA.out 2 (.string so))
        have HR5 := Aside0.mk (show W5.heap[rb]? = some (.cells #[.int .i64 0, .string ⟨#[]⟩, .string ⟨#[]⟩, .float .f64 0, .int .i64 0, .slice none 0 0] 51 (0, 0)) by
          rw [← hW5]
          exact blk_far HRA.out (by have := HRV.out; simp; omega) _)
        have HB5 := Aside0.mk (show Below rb w W5 by
          rw [← hW5]
          exact HBA.out.setCell (by have := HRV.out; simp; omega) _)
        clear hso hW5 s0 s1 s2 f0 f1 f2 z1 z2 z3 z4 z5 z6
        have v0 := (blk_cell HV5.out 0).trans (rfl : _ = some (Value.int .i64 3))
        have v1 := (blk_cell HV5.out 1).trans (rfl : _ = some (Value.string RAW))
        have v2 := (blk_cell HV5.out 2).trans (rfl : _ = some (Value.string so))
        have v3 := (blk_cell HV5.out 3).trans (rfl : _ = some (Value.float .f64 0))
        have v4 := (blk_cell HV5.out 4).trans (rfl : _ = some (Value.int .i64 0))
        have v5 := (blk_cell HV5.out 5).trans (rfl : _ = some (Value.slice none 0 0))
        have r0 := (blk_cell HR5.out 0).trans (rfl : _ = some (Value.int .i64 0))
        have r1 := (blk_cell HR5.out 1).trans (rfl : _ = some (Value.string ⟨#[]⟩))
        have r2 := (blk_cell HR5.out 2).trans (rfl : _ = some (Value.string ⟨#[]⟩))
        have r3 := (blk_cell HR5.out 3).trans (rfl : _ = some (Value.float .f64 0))
        have r4 := (blk_cell HR5.out 4).trans (rfl : _ = some (Value.int .i64 0))
        have r5 := (blk_cell HR5.out 5).trans (rfl : _ = some (Value.slice none 0 0))
        have g0 := blk_frozen HR5.out 0
        have g1 := blk_frozen HR5.out 1
        have g2 := blk_frozen HR5.out 2
        have g3 := blk_frozen HR5.out 3
        have g4 := blk_frozen HR5.out 4
        have g5 := blk_frozen HR5.out 5
        have m1 : ¬ rb = vb := by have := HRV.out; omega
        have m2 : ¬ vb = rb := by have := HRV.out; omega
        go_still_tail 3, (by kernel_rfl)
        change wpList _ _ _ _ _ W5.drew
        go_wp2
        have hr8 : ((((((W5.setCell ⟨rb, 0, none⟩ (.int .i64 3)).setCell ⟨rb, 1, none⟩ (.string RAW)).setCell ⟨rb, 2, none⟩ (.string so)).setCell ⟨rb, 3, none⟩ (.float .f64 0)).setCell ⟨rb, 4, none⟩ (.int .i64 0)).setCell ⟨rb, 5, none⟩ (.slice none 0 0)).drew.heap[rb]? = some (.cells #[.int .i64 3, .string RAW, .string so, .float .f64 0, .int .i64 0, .slice none 0 0] 51 (0, 0)) := by
          refine blk_drew ?_
          simpa using blk_set (blk_set (blk_set (blk_set (blk_set (blk_set HR5.out 0 (.int .i64 3)) 1 (.string RAW)) 2 (.string so)) 3 (.float .f64 0)) 4 (.int .i64 0)) 5 (.slice none 0 0)
        have HB8 : Below rb w ((((((W5.setCell ⟨rb, 0, none⟩ (.int .i64 3)).setCell ⟨rb, 1, none⟩ (.string RAW)).setCell ⟨rb, 2, none⟩ (.string so)).setCell ⟨rb, 3, none⟩ (.float .f64 0)).setCell ⟨rb, 4, none⟩ (.int .i64 0)).setCell ⟨rb, 5, none⟩ (.slice none 0 0)).drew := ((((((HB5.out.setCell (by simp) _).setCell (by simp) _).setCell (by simp) _).setCell (by simp) _).setCell (by simp) _).setCell (by simp) _).drew
        obtain ⟨W8, hW8⟩ : ∃ W8, ((((((W5.setCell ⟨rb, 0, none⟩ (.int .i64 3)).setCell ⟨rb, 1, none⟩ (.string RAW)).setCell ⟨rb, 2, none⟩ (.string so)).setCell ⟨rb, 3, none⟩ (.float .f64 0)).setCell ⟨rb, 4, none⟩ (.int .i64 0)).setCell ⟨rb, 5, none⟩ (.slice none 0 0)).drew = W8 := ⟨_, rfl⟩
        rw [hW8] at hr8 HB8 ⊢
        have y0 := (blk_cell hr8 0).trans (rfl : _ = some (Value.int .i64 3))
        have y1 := (blk_cell hr8 1).trans (rfl : _ = some (Value.string RAW))
        have y2 := (blk_cell hr8 2).trans (rfl : _ = some (Value.string so))
        have y3 := (blk_cell hr8 3).trans (rfl : _ = some (Value.float .f64 0))
        have y4 := (blk_cell hr8 4).trans (rfl : _ = some (Value.int .i64 0))
        have y5 := (blk_cell hr8 5).trans (rfl : _ = some (Value.slice none 0 0))
        clear hW8 hr8 v0 v1 v2 v3 v4 v5 r0 r1 r2 r3 r4 r5 g0 g1 g2 g3 g4 g5
        refine bodyPost_ret (v := .tuple #[.int .i64 n, .agg #[.int .i64 3, .string RAW, .string so, .float .f64 0, .int .i64 0, .slice none 0 0], .bool true]) (by simp [results, Tryd.results40, go_sem, y0, y1, y2, y3, y4, y5]) rfl ?_
        exact ⟨_, _, _, _, rfl, by rw [HRV.out.2]; exact HB8⟩
    · have hb := HL.out.blank x HX.out.1 (by have := HX.out; omega)
      have d1 : (bt u x == 123) = false := beq_eq_false_iff_ne.mpr (by omega)
      have d2 : (bt u x == 91) = false := beq_eq_false_iff_ne.mpr (by omega)
      have d3 : decide (bt u x ≤ 32) = true := decide_eq_true hb
      have HEN : Aside0 (x < p) := ⟨by have := HX.out; omega⟩
      clear ce hb
      go_wp2
      go_roundg ((u.size : Int) - (x + 1)).toNat
      case measure => have := HX.out; have := HEN.out; have := HL.out.lt; have := HL.out.hi; omega
      case rel => exact ⟨x + 1, (by first | rfl | (congr 1; omega)), ⟨by have := HX.out; have := HEN.out; omega⟩, rfl⟩
set_option maxRecDepth 100000 in
set_option maxHeartbeats 8000000 in
theorem any_word (u : ByteArray) (i p n : Int) (hL : Lead2 u i p n) (hV : WordAt u p n) (w : World) :
    Calls Tryd.prog 40 #[.string u, .int .i64 i, .bool true] w (AnyPost u p n w) := by
  have HL := Aside0.mk hL
  obtain ⟨RAW, hRAW⟩ : ∃ RAW, u.extract p.toNat n.toNat = RAW := ⟨_, rfl⟩
  have HRAW := Aside0.mk hRAW
  have HRS := Aside0.mk (show (RAW.size : Int) = n - p by rw [← hRAW, ByteArray.size_extract]; have := hL.lo; have := hL.le; have := hL.lt; have := hL.hi; omega)
  have HV := Aside0.mk hV
  unfold AnyPost
  rw [hRAW]
  clear hL hRAW hV
  go_enter Tryd.func40, Tryd.ntmps40
  go_wp2_with fail
  obtain ⟨W1, hW1⟩ : ∃ W1, (w.alloc (.cells #[.int .i64 0, .string ⟨#[]⟩, .string ⟨#[]⟩, .float .f64 0, .int .i64 0, .slice none 0 0] 51)).alloc (.cells #[.int .i64 0, .string ⟨#[]⟩, .string ⟨#[]⟩, .float .f64 0, .int .i64 0, .slice none 0 0] 51) = W1 := ⟨_, rfl⟩
  rw [hW1]
  obtain ⟨rb, hrb⟩ : ∃ rb, w.heap.size = rb := ⟨_, rfl⟩
  obtain ⟨vb, hvb⟩ : ∃ vb, rb + 1 = vb := ⟨_, rfl⟩
  rw [hrb, hvb]
  have HX1 : Aside0 (W1.heap[vb]? = some (.cells #[.int .i64 0, .string ⟨#[]⟩, .string ⟨#[]⟩, .float .f64 0, .int .i64 0, .slice none 0 0] 51 (0, 0)) ∧ W1.heap[rb]? = some (.cells #[.int .i64 0, .string ⟨#[]⟩, .string ⟨#[]⟩, .float .f64 0, .int .i64 0, .slice none 0 0] 51 (0, 0)) ∧ Below rb w W1) := ⟨by
    rw [← hW1, ← hvb, ← hrb]
    refine ⟨?_, blk_alloc (heap_alloc_new w _) _, (Below.alloc ((Below.refl _ _).alloc (by omega) _) (by simp) _)⟩
    have := heap_alloc_new (w.alloc (.cells #[.int .i64 0, .string ⟨#[]⟩, .string ⟨#[]⟩, .float .f64 0, .int .i64 0, .slice none 0 0] 51)) (.cells #[.int .i64 0, .string ⟨#[]⟩, .string ⟨#[]⟩, .float .f64 0, .int .i64 0, .slice none 0 0] 51)
    simpa using this⟩
  have HRV : Aside0 (rb < vb ∧ w.heap.size = rb) := ⟨by omega⟩
  clear hW1 hrb hvb
  go_loopg [1] u.size (fun kq x1 wr => ∃ (x : Int), x1 = .int .i64 x ∧ Aside0 (i ≤ x ∧ x ≤ p ∧ (kq : Int) ≥ (u.size : Int) - x) ∧ wr = W1)
  case atStart => exact ⟨i, rfl, ⟨by have := HL.out.le; have := HL.out.lo; omega⟩, rfl⟩
  case round =>
    obtain ⟨x, rfl, HX, hwr⟩ := hrel
    subst wr
    have p1 : (0 : Int) ≤ x := by have := HX.out; have := HL.out.lo; omega
    have p3 : x < (u.size : Int) := by have := HX.out; have := HL.out.lt; have := HL.out.hi; omega
    have p4 : x ≤ 200000 := by have := HL.out.size; omega
    have q1 : (x < (u.size : Int)) = True := eq_true p3
    have c1 : decide (x < (u.size : Int)) = true := decide_eq_true p3
    have hx2 := bt_at u x
    clear p3
    by_cases ce : x = p
    · subst ce
      rcases HV.out.c with d0 | d0 | ⟨d0, d4, d5⟩
      · rw [d0] at hx2
        clear d0
        have HLW := Aside0.mk (fun W => show Calls Tryd.prog 49 #[.string u, .int .i64 x] W fun e W' => e = .returned (.tuple #[.int .i64 n, .string RAW]) ∧ ∃ m, W' = W.drewN m by
          have h := lit_walk u x n HL.out.size p1 HL.out.lt HL.out.hi HV.out.go HV.out.stop W
          unfold Part at h
          rw [HRAW.out] at h
          exact h)
        go_wp2_with fail
        refine (HLW.out _).mono ?_
        rintro e w5 ⟨rfl, m, hm⟩
        have HV4 := Aside0.mk (show w5.heap[vb]? = some (.cells #[.int .i64 0, .string ⟨#[]⟩, .string ⟨#[]⟩, .float .f64 0, .int .i64 0, .slice none 0 0] 51 (0, 0)) by rw [hm]; exact HX1.out.1)
        have HR4 := Aside0.mk (show w5.heap[rb]? = some (.cells #[.int .i64 0, .string ⟨#[]⟩, .string ⟨#[]⟩, .float .f64 0, .int .i64 0, .slice none 0 0] 51 (0, 0)) by rw [hm]; exact HX1.out.2.1)
        have HB4 := Aside0.mk (show Below rb w w5 by rw [hm]; exact pw_below_drewN HX1.out.2.2 m)
        clear hm hx2
        have s0 := (blk_cell HV4.out 0).trans (rfl : _ = some (Value.int .i64 0))
        have s1 := (blk_cell HV4.out 1).trans (rfl : _ = some (Value.string ⟨#[]⟩))
        have f0 := blk_frozen HV4.out 0
        have f1 := blk_frozen HV4.out 1
        go_upto_region 59 with (fail)
        obtain ⟨W5, hW5⟩ : ∃ W5, (w5.setCell ⟨vb, 1, none⟩ (.string RAW)).setCell ⟨vb, 0, none⟩ (.int .i64 4) = W5 := ⟨_, rfl⟩
        rw [hW5]
        have HV5 := Aside0.mk (show W5.heap[vb]? = some (.cells #[.int .i64 4, .string RAW, .string ⟨#[]⟩, .float .f64 0, .int .i64 0, .slice none 0 0] 51 (0, 0)) by
          rw [← hW5]
          simpa using blk_set (blk_set HV4.out 1 (.string RAW)) 0 (.int .i64 4))
        have HR5 := Aside0.mk (show W5.heap[rb]? = some (.cells #[.int .i64 0, .string ⟨#[]⟩, .string ⟨#[]⟩, .float .f64 0, .int .i64 0, .slice none 0 0] 51 (0, 0)) by
          rw [← hW5]
          exact blk_far (blk_far HR4.out (by have := HRV.out; simp; omega) _) (by have := HRV.out; simp; omega) _)
        have HB5 := Aside0.mk (show Below rb w W5 by
          rw [← hW5]
          exact (HB4.out.setCell (by have := HRV.out; simp; omega) _).setCell (by have := HRV.out; simp; omega) _)
        clear hW5 s0 s1 f0 f1
        have v0 := (blk_cell HV5.out 0).trans (rfl : _ = some (Value.int .i64 4))
        have v1 := (blk_cell HV5.out 1).trans (rfl : _ = some (Value.string RAW))
        have v2 := (blk_cell HV5.out 2).trans (rfl : _ = some (Value.string ⟨#[]⟩))
        have v3 := (blk_cell HV5.out 3).trans (rfl : _ = some (Value.float .f64 0))
        have v4 := (blk_cell HV5.out 4).trans (rfl : _ = some (Value.int .i64 0))
        have v5 := (blk_cell HV5.out 5).trans (rfl : _ = some (Value.slice none 0 0))
        have r0 := (blk_cell HR5.out 0).trans (rfl : _ = some (Value.int .i64 0))
        have r1 := (blk_cell HR5.out 1).trans (rfl : _ = some (Value.string ⟨#[]⟩))
        have r2 := (blk_cell HR5.out 2).trans (rfl : _ = some (Value.string ⟨#[]⟩))
        have r3 := (blk_cell HR5.out 3).trans (rfl : _ = some (Value.float .f64 0))
        have r4 := (blk_cell HR5.out 4).trans (rfl : _ = some (Value.int .i64 0))
        have r5 := (blk_cell HR5.out 5).trans (rfl : _ = some (Value.slice none 0 0))
        have g0 := blk_frozen HR5.out 0
        have g1 := blk_frozen HR5.out 1
        have g2 := blk_frozen HR5.out 2
        have g3 := blk_frozen HR5.out 3
        have g4 := blk_frozen HR5.out 4
        have g5 := blk_frozen HR5.out 5
        have m1 : ¬ rb = vb := by have := HRV.out; omega
        have m2 : ¬ vb = rb := by have := HRV.out; omega
        go_still_tail 3, (by kernel_rfl)
        change wpList _ _ _ _ _ W5.drew
        go_wp2
        have hr8 : ((((((W5.setCell ⟨rb, 0, none⟩ (.int .i64 4)).setCell ⟨rb, 1, none⟩ (.string RAW)).setCell ⟨rb, 2, none⟩ (.string ⟨#[]⟩)).setCell ⟨rb, 3, none⟩ (.float .f64 0)).setCell ⟨rb, 4, none⟩ (.int .i64 0)).setCell ⟨rb, 5, none⟩ (.slice none 0 0)).drew.heap[rb]? = some (.cells #[.int .i64 4, .string RAW, .string ⟨#[]⟩, .float .f64 0, .int .i64 0, .slice none 0 0] 51 (0, 0)) := by
          refine blk_drew ?_
          simpa using blk_set (blk_set (blk_set (blk_set (blk_set (blk_set HR5.out 0 (.int .i64 4)) 1 (.string RAW)) 2 (.string ⟨#[]⟩)) 3 (.float .f64 0)) 4 (.int .i64 0)) 5 (.slice none 0 0)
        have HB8 : Below rb w ((((((W5.setCell ⟨rb, 0, none⟩ (.int .i64 4)).setCell ⟨rb, 1, none⟩ (.string RAW)).setCell ⟨rb, 2, none⟩ (.string ⟨#[]⟩)).setCell ⟨rb, 3, none⟩ (.float .f64 0)).setCell ⟨rb, 4, none⟩ (.int .i64 0)).setCell ⟨rb, 5, none⟩ (.slice none 0 0)).drew := ((((((HB5.out.setCell (by simp) _).setCell (by simp) _).setCell (by simp) _).setCell (by simp) _).setCell (by simp) _).setCell (by simp) _).drew
        obtain ⟨W8, hW8⟩ : ∃ W8, ((((((W5.setCell ⟨rb, 0, none⟩ (.int .i64 4)).setCell ⟨rb, 1, none⟩ (.string RAW)).setCell ⟨rb, 2, none⟩ (.string ⟨#[]⟩)).setCell ⟨rb, 3, none⟩ (.float .f64 0)).setCell ⟨rb, 4, none⟩ (.int .i64 0)).setCell ⟨rb, 5, none⟩ (.slice none 0 0)).drew = W8 := ⟨_, rfl⟩
        rw [hW8] at hr8 HB8 ⊢
        have y0 := (blk_cell hr8 0).trans (rfl : _ = some (Value.int .i64 4))
        have y1 := (blk_cell hr8 1).trans (rfl : _ = some (Value.string RAW))
        have y2 := (blk_cell hr8 2).trans (rfl : _ = some (Value.string ⟨#[]⟩))
        have y3 := (blk_cell hr8 3).trans (rfl : _ = some (Value.float .f64 0))
        have y4 := (blk_cell hr8 4).trans (rfl : _ = some (Value.int .i64 0))
        have y5 := (blk_cell hr8 5).trans (rfl : _ = some (Value.slice none 0 0))
        clear hW8 hr8 v0 v1 v2 v3 v4 v5 r0 r1 r2 r3 r4 r5 g0 g1 g2 g3 g4 g5
        refine bodyPost_ret (v := .tuple #[.int .i64 n, .agg #[.int .i64 4, .string RAW, .string ⟨#[]⟩, .float .f64 0, .int .i64 0, .slice none 0 0], .bool true]) (by simp [results, Tryd.results40, go_sem, y0, y1, y2, y3, y4, y5]) rfl ?_
        exact ⟨_, _, _, _, rfl, by rw [HRV.out.2]; exact HB8⟩
      · rw [d0] at hx2
        clear d0
        have HLW := Aside0.mk (fun W => show Calls Tryd.prog 49 #[.string u, .int .i64 x] W fun e W' => e = .returned (.tuple #[.int .i64 n, .string RAW]) ∧ ∃ m, W' = W.drewN m by
          have h := lit_walk u x n HL.out.size p1 HL.out.lt HL.out.hi HV.out.go HV.out.stop W
          unfold Part at h
          rw [HRAW.out] at h
          exact h)
        go_wp2_with fail
        refine (HLW.out _).mono ?_
        rintro e w5 ⟨rfl, m, hm⟩
        have HV4 := Aside0.mk (show w5.heap[vb]? = some (.cells #[.int .i64 0, .string ⟨#[]⟩, .string ⟨#[]⟩, .float .f64 0, .int .i64 0, .slice none 0 0] 51 (0, 0)) by rw [hm]; exact HX1.out.1)
        have HR4 := Aside0.mk (show w5.heap[rb]? = some (.cells #[.int .i64 0, .string ⟨#[]⟩, .string ⟨#[]⟩, .float .f64 0, .int .i64 0, .slice none 0 0] 51 (0, 0)) by rw [hm]; exact HX1.out.2.1)
        have HB4 := Aside0.mk (show Below rb w w5 by rw [hm]; exact pw_below_drewN HX1.out.2.2 m)
        clear hm hx2
        have s0 := (blk_cell HV4.out 0).trans (rfl : _ = some (Value.int .i64 0))
        have s1 := (blk_cell HV4.out 1).trans (rfl : _ = some (Value.string ⟨#[]⟩))
        have f0 := blk_frozen HV4.out 0
        have f1 := blk_frozen HV4.out 1
        go_upto_region 59 with (fail)
        obtain ⟨W5, hW5⟩ : ∃ W5, (w5.setCell ⟨vb, 1, none⟩ (.string RAW)).setCell ⟨vb, 0, none⟩ (.int .i64 1) = W5 := ⟨_, rfl⟩
        rw [hW5]
        have HV5 := Aside0.mk (show W5.heap[vb]? = some (.cells #[.int .i64 1, .string RAW, .string ⟨#[]⟩, .float .f64 0, .int .i64 0, .slice none 0 0] 51 (0, 0)) by
          rw [← hW5]
          simpa using blk_set (blk_set HV4.out 1 (.string RAW)) 0 (.int .i64 1))
        have HR5 := Aside0.mk (show W5.heap[rb]? = some (.cells #[.int .i64 0, .string ⟨#[]⟩, .string ⟨#[]⟩, .float .f64 0, .int .i64 0, .slice none 0 0] 51 (0, 0)) by
          rw [← hW5]
          exact blk_far (blk_far HR4.out (by have := HRV.out; simp; omega) _) (by have := HRV.out; simp; omega) _)
        have HB5 := Aside0.mk (show Below rb w W5 by
          rw [← hW5]
          exact (HB4.out.setCell (by have := HRV.out; simp; omega) _).setCell (by have := HRV.out; simp; omega) _)
        clear hW5 s0 s1 f0 f1
        have v0 := (blk_cell HV5.out 0).trans (rfl : _ = some (Value.int .i64 1))
        have v1 := (blk_cell HV5.out 1).trans (rfl : _ = some (Value.string RAW))
        have v2 := (blk_cell HV5.out 2).trans (rfl : _ = some (Value.string ⟨#[]⟩))
        have v3 := (blk_cell HV5.out 3).trans (rfl : _ = some (Value.float .f64 0))
        have v4 := (blk_cell HV5.out 4).trans (rfl : _ = some (Value.int .i64 0))
        have v5 := (blk_cell HV5.out 5).trans (rfl : _ = some (Value.slice none 0 0))
        have r0 := (blk_cell HR5.out 0).trans (rfl : _ = some (Value.int .i64 0))
        have r1 := (blk_cell HR5.out 1).trans (rfl : _ = some (Value.string ⟨#[]⟩))
        have r2 := (blk_cell HR5.out 2).trans (rfl : _ = some (Value.string ⟨#[]⟩))
        have r3 := (blk_cell HR5.out 3).trans (rfl : _ = some (Value.float .f64 0))
        have r4 := (blk_cell HR5.out 4).trans (rfl : _ = some (Value.int .i64 0))
        have r5 := (blk_cell HR5.out 5).trans (rfl : _ = some (Value.slice none 0 0))
        have g0 := blk_frozen HR5.out 0
        have g1 := blk_frozen HR5.out 1
        have g2 := blk_frozen HR5.out 2
        have g3 := blk_frozen HR5.out 3
        have g4 := blk_frozen HR5.out 4
        have g5 := blk_frozen HR5.out 5
        have m1 : ¬ rb = vb := by have := HRV.out; omega
        have m2 : ¬ vb = rb := by have := HRV.out; omega
        go_still_tail 3, (by kernel_rfl)
        change wpList _ _ _ _ _ W5.drew
        go_wp2
        have hr8 : ((((((W5.setCell ⟨rb, 0, none⟩ (.int .i64 1)).setCell ⟨rb, 1, none⟩ (.string RAW)).setCell ⟨rb, 2, none⟩ (.string ⟨#[]⟩)).setCell ⟨rb, 3, none⟩ (.float .f64 0)).setCell ⟨rb, 4, none⟩ (.int .i64 0)).setCell ⟨rb, 5, none⟩ (.slice none 0 0)).drew.heap[rb]? = some (.cells #[.int .i64 1, .string RAW, .string ⟨#[]⟩, .float .f64 0, .int .i64 0, .slice none 0 0] 51 (0, 0)) := by
          refine blk_drew ?_
          simpa using blk_set (blk_set (blk_set (blk_set (blk_set (blk_set HR5.out 0 (.int .i64 1)) 1 (.string RAW)) 2 (.string ⟨#[]⟩)) 3 (.float .f64 0)) 4 (.int .i64 0)) 5 (.slice none 0 0)
        have HB8 : Below rb w ((((((W5.setCell ⟨rb, 0, none⟩ (.int .i64 1)).setCell ⟨rb, 1, none⟩ (.string RAW)).setCell ⟨rb, 2, none⟩ (.string ⟨#[]⟩)).setCell ⟨rb, 3, none⟩ (.float .f64 0)).setCell ⟨rb, 4, none⟩ (.int .i64 0)).setCell ⟨rb, 5, none⟩ (.slice none 0 0)).drew := ((((((HB5.out.setCell (by simp) _).setCell (by simp) _).setCell (by simp) _).setCell (by simp) _).setCell (by simp) _).setCell (by simp) _).drew
        obtain ⟨W8, hW8⟩ : ∃ W8, ((((((W5.setCell ⟨rb, 0, none⟩ (.int .i64 1)).setCell ⟨rb, 1, none⟩ (.string RAW)).setCell ⟨rb, 2, none⟩ (.string ⟨#[]⟩)).setCell ⟨rb, 3, none⟩ (.float .f64 0)).setCell ⟨rb, 4, none⟩ (.int .i64 0)).setCell ⟨rb, 5, none⟩ (.slice none 0 0)).drew = W8 := ⟨_, rfl⟩
        rw [hW8] at hr8 HB8 ⊢
        have y0 := (blk_cell hr8 0).trans (rfl : _ = some (Value.int .i64 1))
        have y1 := (blk_cell hr8 1).trans (rfl : _ = some (Value.string RAW))
        have y2 := (blk_cell hr8 2).trans (rfl : _ = some (Value.string ⟨#[]⟩))
        have y3 := (blk_cell hr8 3).trans (rfl : _ = some (Value.float .f64 0))
        have y4 := (blk_cell hr8 4).trans (rfl : _ = some (Value.int .i64 0))
        have y5 := (blk_cell hr8 5).trans (rfl : _ = some (Value.slice none 0 0))
        clear hW8 hr8 v0 v1 v2 v3 v4 v5 r0 r1 r2 r3 r4 r5 g0 g1 g2 g3 g4 g5
        refine bodyPost_ret (v := .tuple #[.int .i64 n, .agg #[.int .i64 1, .string RAW, .string ⟨#[]⟩, .float .f64 0, .int .i64 0, .slice none 0 0], .bool true]) (by simp [results, Tryd.results40, go_sem, y0, y1, y2, y3, y4, y5]) rfl ?_
        exact ⟨_, _, _, _, rfl, by rw [HRV.out.2]; exact HB8⟩
      · rw [d0] at hx2
        have hx3 := bt_at u (x + 1)
        rw [d4] at hx3
        have p6 : x + 1 < (u.size : Int) := by have := HL.out.hi; omega
        have p7 : (x + 1 < (u.size : Int)) = True := eq_true p6
        have p8 : decide (x + 1 < (u.size : Int)) = true := decide_eq_true p6
        clear d0 d4 d5 p6
        have HLW := Aside0.mk (fun W => show Calls Tryd.prog 49 #[.string u, .int .i64 x] W fun e W' => e = .returned (.tuple #[.int .i64 n, .string RAW]) ∧ ∃ m, W' = W.drewN m by
          have h := lit_walk u x n HL.out.size p1 HL.out.lt HL.out.hi HV.out.go HV.out.stop W
          unfold Part at h
          rw [HRAW.out] at h
          exact h)
        go_wp2_with fail
        refine (HLW.out _).mono ?_
        rintro e w5 ⟨rfl, m, hm⟩
        have HV4 := Aside0.mk (show w5.heap[vb]? = some (.cells #[.int .i64 0, .string ⟨#[]⟩, .string ⟨#[]⟩, .float .f64 0, .int .i64 0, .slice none 0 0] 51 (0, 0)) by rw [hm]; exact HX1.out.1)
        have HR4 := Aside0.mk (show w5.heap[rb]? = some (.cells #[.int .i64 0, .string ⟨#[]⟩, .string ⟨#[]⟩, .float .f64 0, .int .i64 0, .slice none 0 0] 51 (0, 0)) by rw [hm]; exact HX1.out.2.1)
        have HB4 := Aside0.mk (show Below rb w w5 by rw [hm]; exact pw_below_drewN HX1.out.2.2 m)
        clear hm hx2
        have s0 := (blk_cell HV4.out 0).trans (rfl : _ = some (Value.int .i64 0))
        have s1 := (blk_cell HV4.out 1).trans (rfl : _ = some (Value.string ⟨#[]⟩))
        have f0 := blk_frozen HV4.out 0
        have f1 := blk_frozen HV4.out 1
        go_upto_region 59 with (fail)
        obtain ⟨W5, hW5⟩ : ∃ W5, w5.setCell ⟨vb, 1, none⟩ (.string RAW) = W5 := ⟨_, rfl⟩
        rw [hW5]
        have HV5 := Aside0.mk (show W5.heap[vb]? = some (.cells #[.int .i64 0, .string RAW, .string ⟨#[]⟩, .float .f64 0, .int .i64 0, .slice none 0 0] 51 (0, 0)) by
          rw [← hW5]
          simpa using blk_set HV4.out 1 (.string RAW))
        have HR5 := Aside0.mk (show W5.heap[rb]? = some (.cells #[.int .i64 0, .string ⟨#[]⟩, .string ⟨#[]⟩, .float .f64 0, .int .i64 0, .slice none 0 0] 51 (0, 0)) by
          rw [← hW5]
          exact blk_far HR4.out (by have := HRV.out; simp; omega) _)
        have HB5 := Aside0.mk (show Below rb w W5 by
          rw [← hW5]
          exact HB4.out.setCell (by have := HRV.out; simp; omega) _)
        clear hW5 s0 s1 f0 f1
        have v0 := (blk_cell HV5.out 0).trans (rfl : _ = some (Value.int .i64 0))
        have v1 := (blk_cell HV5.out 1).trans (rfl : _ = some (Value.string RAW))
        have v2 := (blk_cell HV5.out 2).trans (rfl : _ = some (Value.string ⟨#[]⟩))
        have v3 := (blk_cell HV5.out 3).trans (rfl : _ = some (Value.float .f64 0))
        have v4 := (blk_cell HV5.out 4).trans (rfl : _ = some (Value.int .i64 0))
        have v5 := (blk_cell HV5.out 5).trans (rfl : _ = some (Value.slice none 0 0))
        have r0 := (blk_cell HR5.out 0).trans (rfl : _ = some (Value.int .i64 0))
        have r1 := (blk_cell HR5.out 1).trans (rfl : _ = some (Value.string ⟨#[]⟩))
        have r2 := (blk_cell HR5.out 2).trans (rfl : _ = some (Value.string ⟨#[]⟩))
        have r3 := (blk_cell HR5.out 3).trans (rfl : _ = some (Value.float .f64 0))
        have r4 := (blk_cell HR5.out 4).trans (rfl : _ = some (Value.int .i64 0))
        have r5 := (blk_cell HR5.out 5).trans (rfl : _ = some (Value.slice none 0 0))
        have g0 := blk_frozen HR5.out 0
        have g1 := blk_frozen HR5.out 1
        have g2 := blk_frozen HR5.out 2
        have g3 := blk_frozen HR5.out 3
        have g4 := blk_frozen HR5.out 4
        have g5 := blk_frozen HR5.out 5
        have m1 : ¬ rb = vb := by have := HRV.out; omega
        have m2 : ¬ vb = rb := by have := HRV.out; omega
        go_still_tail 3, (by kernel_rfl)
        change wpList _ _ _ _ _ W5.drew
        go_wp2
        have hr8 : ((((((W5.setCell ⟨rb, 0, none⟩ (.int .i64 0)).setCell ⟨rb, 1, none⟩ (.string RAW)).setCell ⟨rb, 2, none⟩ (.string ⟨#[]⟩)).setCell ⟨rb, 3, none⟩ (.float .f64 0)).setCell ⟨rb, 4, none⟩ (.int .i64 0)).setCell ⟨rb, 5, none⟩ (.slice none 0 0)).drew.heap[rb]? = some (.cells #[.int .i64 0, .string RAW, .string ⟨#[]⟩, .float .f64 0, .int .i64 0, .slice none 0 0] 51 (0, 0)) := by
          refine blk_drew ?_
          simpa using blk_set (blk_set (blk_set (blk_set (blk_set (blk_set HR5.out 0 (.int .i64 0)) 1 (.string RAW)) 2 (.string ⟨#[]⟩)) 3 (.float .f64 0)) 4 (.int .i64 0)) 5 (.slice none 0 0)
        have HB8 : Below rb w ((((((W5.setCell ⟨rb, 0, none⟩ (.int .i64 0)).setCell ⟨rb, 1, none⟩ (.string RAW)).setCell ⟨rb, 2, none⟩ (.string ⟨#[]⟩)).setCell ⟨rb, 3, none⟩ (.float .f64 0)).setCell ⟨rb, 4, none⟩ (.int .i64 0)).setCell ⟨rb, 5, none⟩ (.slice none 0 0)).drew := ((((((HB5.out.setCell (by simp) _).setCell (by simp) _).setCell (by simp) _).setCell (by simp) _).setCell (by simp) _).setCell (by simp) _).drew
        obtain ⟨W8, hW8⟩ : ∃ W8, ((((((W5.setCell ⟨rb, 0, none⟩ (.int .i64 0)).setCell ⟨rb, 1, none⟩ (.string RAW)).setCell ⟨rb, 2, none⟩ (.string ⟨#[]⟩)).setCell ⟨rb, 3, none⟩ (.float .f64 0)).setCell ⟨rb, 4, none⟩ (.int .i64 0)).setCell ⟨rb, 5, none⟩ (.slice none 0 0)).drew = W8 := ⟨_, rfl⟩
        rw [hW8] at hr8 HB8 ⊢
        have y0 := (blk_cell hr8 0).trans (rfl : _ = some (Value.int .i64 0))
        have y1 := (blk_cell hr8 1).trans (rfl : _ = some (Value.string RAW))
        have y2 := (blk_cell hr8 2).trans (rfl : _ = some (Value.string ⟨#[]⟩))
        have y3 := (blk_cell hr8 3).trans (rfl : _ = some (Value.float .f64 0))
        have y4 := (blk_cell hr8 4).trans (rfl : _ = some (Value.int .i64 0))
        have y5 := (blk_cell hr8 5).trans (rfl : _ = some (Value.slice none 0 0))
        clear hW8 hr8 v0 v1 v2 v3 v4 v5 r0 r1 r2 r3 r4 r5 g0 g1 g2 g3 g4 g5
        refine bodyPost_ret (v := .tuple #[.int .i64 n, .agg #[.int .i64 0, .string RAW, .string ⟨#[]⟩, .float .f64 0, .int .i64 0, .slice none 0 0], .bool true]) (by simp [results, Tryd.results40, go_sem, y0, y1, y2, y3, y4, y5]) rfl ?_
        exact ⟨_, _, _, _, rfl, by rw [HRV.out.2]; exact HB8⟩
    · have hb := HL.out.blank x HX.out.1 (by have := HX.out; omega)
      have d1 : (bt u x == 123) = false := beq_eq_false_iff_ne.mpr (by omega)
      have d2 : (bt u x == 91) = false := beq_eq_false_iff_ne.mpr (by omega)
      have d3 : decide (bt u x ≤ 32) = true := decide_eq_true hb
      have HEN : Aside0 (x < p) := ⟨by have := HX.out; omega⟩
      clear ce hb
      go_wp2
      go_roundg ((u.size : Int) - (x + 1)).toNat
      case measure => have := HX.out; have := HEN.out; have := HL.out.lt; have := HL.out.hi; omega
      case rel => exact ⟨x + 1, (by first | rfl | (congr 1; omega)), ⟨by have := HX.out; have := HEN.out; omega⟩, rfl⟩
set_option maxRecDepth 100000 in
set_option maxHeartbeats 8000000 in
theorem any_num (u : ByteArray) (i p n : Int) (hL : Lead2 u i p n) (hV : NumAt u p n) (w : World) (hT : Tabs w w.heap.size) (hE : ErrVars w w.heap.size) :
    Calls Tryd.prog 40 #[.string u, .int .i64 i, .bool true] w (AnyPost u p n w) := by
  have HL := Aside0.mk hL
  obtain ⟨RAW, hRAW⟩ : ∃ RAW, u.extract p.toNat n.toNat = RAW := ⟨_, rfl⟩
  have HRAW := Aside0.mk hRAW
  have HRS := Aside0.mk (show (RAW.size : Int) = n - p by rw [← hRAW, ByteArray.size_extract]; have := hL.lo; have := hL.le; have := hL.lt; have := hL.hi; omega)
  have HV := Aside0.mk hV
  have HTV := Aside0.mk (And.intro hT hE)
  unfold AnyPost
  rw [hRAW]
  clear hL hRAW hV hT hE
  go_enter Tryd.func40, Tryd.ntmps40
  go_wp2_with fail
  obtain ⟨W1, hW1⟩ : ∃ W1, (w.alloc (.cells #[.int .i64 0, .string ⟨#[]⟩, .string ⟨#[]⟩, .float .f64 0, .int .i64 0, .slice none 0 0] 51)).alloc (.cells #[.int .i64 0, .string ⟨#[]⟩, .string ⟨#[]⟩, .float .f64 0, .int .i64 0, .slice none 0 0] 51) = W1 := ⟨_, rfl⟩
  rw [hW1]
  obtain ⟨rb, hrb⟩ : ∃ rb, w.heap.size = rb := ⟨_, rfl⟩
  obtain ⟨vb, hvb⟩ : ∃ vb, rb + 1 = vb := ⟨_, rfl⟩
  rw [hrb, hvb]
  have HX1 : Aside0 (W1.heap[vb]? = some (.cells #[.int .i64 0, .string ⟨#[]⟩, .string ⟨#[]⟩, .float .f64 0, .int .i64 0, .slice none 0 0] 51 (0, 0)) ∧ W1.heap[rb]? = some (.cells #[.int .i64 0, .string ⟨#[]⟩, .string ⟨#[]⟩, .float .f64 0, .int .i64 0, .slice none 0 0] 51 (0, 0)) ∧ Below rb w W1) := ⟨by
    rw [← hW1, ← hvb, ← hrb]
    refine ⟨?_, blk_alloc (heap_alloc_new w _) _, (Below.alloc ((Below.refl _ _).alloc (by omega) _) (by simp) _)⟩
    have := heap_alloc_new (w.alloc (.cells #[.int .i64 0, .string ⟨#[]⟩, .string ⟨#[]⟩, .float .f64 0, .int .i64 0, .slice none 0 0] 51)) (.cells #[.int .i64 0, .string ⟨#[]⟩, .string ⟨#[]⟩, .float .f64 0, .int .i64 0, .slice none 0 0] 51)
    simpa using this⟩
  have HRV : Aside0 (rb < vb ∧ w.heap.size = rb) := ⟨by omega⟩
  clear hW1 hrb hvb
  go_loopg [1] u.size (fun kq x1 wr => ∃ (x : Int), x1 = .int .i64 x ∧ Aside0 (i ≤ x ∧ x ≤ p ∧ (kq : Int) ≥ (u.size : Int) - x) ∧ wr = W1)
  case atStart => exact ⟨i, rfl, ⟨by have := HL.out.le; have := HL.out.lo; omega⟩, rfl⟩
  case round =>
    obtain ⟨x, rfl, HX, hwr⟩ := hrel
    subst wr
    have p1 : (0 : Int) ≤ x := by have := HX.out; have := HL.out.lo; omega
    have p3 : x < (u.size : Int) := by have := HX.out; have := HL.out.lt; have := HL.out.hi; omega
    have p4 : x ≤ 200000 := by have := HL.out.size; omega
    have q1 : (x < (u.size : Int)) = True := eq_true p3
    have c1 : decide (x < (u.size : Int)) = true := decide_eq_true p3
    have hx2 := bt_at u x
    clear p3
    by_cases ce : x = p
    · subst ce
      have hd := HV.out.c
      unfold Dig at hd
      have d1 : (bt u x == 123) = false := beq_eq_false_iff_ne.mpr (by omega)
      have d2 : (bt u x == 91) = false := beq_eq_false_iff_ne.mpr (by omega)
      have d3 : decide (bt u x ≤ 32) = false := decide_eq_false (by omega)
      have HD := Aside0.mk hd
      clear hd
      go_upto_block 2 with (fail)
      go_cut [1, 11] (fun x1 x11 wc => x1 = .int .i64 x ∧ x11 = .bool true ∧ wc = W1)
      case first =>
        have hd := HD.out
        rcases hd with hq | hq | hq | hq | hq | hq | hq | hq | hq | hq | hq
        · have k0 : (bt u x == 34) = false := by rw [hq]; rfl
          have k1 : (bt u x == 110) = false := by rw [hq]; rfl
          have k2 : (bt u x == 116) = false := by rw [hq]; rfl
          have k3 : (bt u x == 102) = false := by rw [hq]; rfl
          have k4 : (bt u x == 43) = false := by rw [hq]; rfl
          have k5 : (bt u x == 45) = true := by rw [hq]; rfl
          clear hq
          go_wp2_with fail
          go_meet
          case rel => exact ⟨rfl, rfl, rfl⟩
        · have k0 : (bt u x == 34) = false := by rw [hq]; rfl
          have k1 : (bt u x == 110) = false := by rw [hq]; rfl
          have k2 : (bt u x == 116) = false := by rw [hq]; rfl
          have k3 : (bt u x == 102) = false := by rw [hq]; rfl
          have k4 : (bt u x == 43) = false := by rw [hq]; rfl
          have k5 : (bt u x == 45) = false := by rw [hq]; rfl
          have k6 : (bt u x == 48) = true := by rw [hq]; rfl
          clear hq
          go_wp2_with fail
          go_meet
          case rel => exact ⟨rfl, rfl, rfl⟩
        · have k0 : (bt u x == 34) = false := by rw [hq]; rfl
          have k1 : (bt u x == 110) = false := by rw [hq]; rfl
          have k2 : (bt u x == 116) = false := by rw [hq]; rfl
          have k3 : (bt u x == 102) = false := by rw [hq]; rfl
          have k4 : (bt u x == 43) = false := by rw [hq]; rfl
          have k5 : (bt u x == 45) = false := by rw [hq]; rfl
          have k6 : (bt u x == 48) = false := by rw [hq]; rfl
          have k7 : (bt u x == 49) = true := by rw [hq]; rfl
          clear hq
          go_wp2_with fail
          go_meet
          case rel => exact ⟨rfl, rfl, rfl⟩
        · have k0 : (bt u x == 34) = false := by rw [hq]; rfl
          have k1 : (bt u x == 110) = false := by rw [hq]; rfl
          have k2 : (bt u x == 116) = false := by rw [hq]; rfl
          have k3 : (bt u x == 102) = false := by rw [hq]; rfl
          have k4 : (bt u x == 43) = false := by rw [hq]; rfl
          have k5 : (bt u x == 45) = false := by rw [hq]; rfl
          have k6 : (bt u x == 48) = false := by rw [hq]; rfl
          have k7 : (bt u x == 49) = false := by rw [hq]; rfl
          have k8 : (bt u x == 50) = true := by rw [hq]; rfl
          clear hq
          go_wp2_with fail
          go_meet
          case rel => exact ⟨rfl, rfl, rfl⟩
        · have k0 : (bt u x == 34) = false := by rw [hq]; rfl
          have k1 : (bt u x == 110) = false := by rw [hq]; rfl
          have k2 : (bt u x == 116) = false := by rw [hq]; rfl
          have k3 : (bt u x == 102) = false := by rw [hq]; rfl
          have k4 : (bt u x == 43) = false := by rw [hq]; rfl
          have k5 : (bt u x == 45) = false := by rw [hq]; rfl
          have k6 : (bt u x == 48) = false := by rw [hq]; rfl
          have k7 : (bt u x == 49) = false := by rw [hq]; rfl
          have k8 : (bt u x == 50) = false := by rw [hq]; rfl
          have k9 : (bt u x == 51) = true := by rw [hq]; rfl
          clear hq
          go_wp2_with fail
          go_meet
          case rel => exact ⟨rfl, rfl, rfl⟩
        · have k0 : (bt u x == 34) = false := by rw [hq]; rfl
          have k1 : (bt u x == 110) = false := by rw [hq]; rfl
          have k2 : (bt u x == 116) = false := by rw [hq]; rfl
          have k3 : (bt u x == 102) = false := by rw [hq]; rfl
          have k4 : (bt u x == 43) = false := by rw [hq]; rfl
          have k5 : (bt u x == 45) = false := by rw [hq]; rfl
          have k6 : (bt u x == 48) = false := by rw [hq]; rfl
          have k7 : (bt u x == 49) = false := by rw [hq]; rfl
          have k8 : (bt u x == 50) = false := by rw [hq]; rfl
          have k9 : (bt u x == 51) = false := by rw [hq]; rfl
          have k10 : (bt u x == 52) = true := by rw [hq]; rfl
          clear hq
          go_wp2_with fail
          go_meet
          case rel => exact ⟨rfl, rfl, rfl⟩
        · have k0 : (bt u x == 34) = false := by rw [hq]; rfl
          have k1 : (bt u x == 110) = false := by rw [hq]; rfl
          have k2 : (bt u x == 116) = false := by rw [hq]; rfl
          have k3 : (bt u x == 102) = false := by rw [hq]; rfl
          have k4 : (bt u x == 43) = false := by rw [hq]; rfl
          have k5 : (bt u x == 45) = false := by rw [hq]; rfl
          have k6 : (bt u x == 48) = false := by rw [hq]; rfl
          have k7 : (bt u x == 49) = false := by rw [hq]; rfl
          have k8 : (bt u x == 50) = false := by rw [hq]; rfl
          have k9 : (bt u x == 51) = false := by rw [hq]; rfl
          have k10 : (bt u x == 52) = false := by rw [hq]; rfl
          have k11 : (bt u x == 53) = true := by rw [hq]; rfl
          clear hq
          go_wp2_with fail
          go_meet
          case rel => exact ⟨rfl, rfl, rfl⟩
        · have k0 : (bt u x == 34) = false := by rw [hq]; rfl
          have k1 : (bt u x == 110) = false := by rw [hq]; rfl
          have k2 : (bt u x == 116) = false := by rw [hq]; rfl
          have k3 : (bt u x == 102) = false := by rw [hq]; rfl
          have k4 : (bt u x == 43) = false := by rw [hq]; rfl
          have k5 : (bt u x == 45) = false := by rw [hq]; rfl
          have k6 : (bt u x == 48) = false := by rw [hq]; rfl
          have k7 : (bt u x == 49) = false := by rw [hq]; rfl
          have k8 : (bt u x == 50) = false := by rw [hq]; rfl
          have k9 : (bt u x == 51) = false := by rw [hq]; rfl
          have k10 : (bt u x == 52) = false := by rw [hq]; rfl
          have k11 : (bt u x == 53) = false := by rw [hq]; rfl
          have k12 : (bt u x == 54) = true := by rw [hq]; rfl
          clear hq
          go_wp2_with fail
          go_meet
          case rel => exact ⟨rfl, rfl, rfl⟩
        · have k0 : (bt u x == 34) = false := by rw [hq]; rfl
          have k1 : (bt u x == 110) = false := by rw [hq]; rfl
          have k2 : (bt u x == 116) = false := by rw [hq]; rfl
          have k3 : (bt u x == 102) = false := by rw [hq]; rfl
          have k4 : (bt u x == 43) = false := by rw [hq]; rfl
          have k5 : (bt u x == 45) = false := by rw [hq]; rfl
          have k6 : (bt u x == 48) = false := by rw [hq]; rfl
          have k7 : (bt u x == 49) = false := by rw [hq]; rfl
          have k8 : (bt u x == 50) = false := by rw [hq]; rfl
          have k9 : (bt u x == 51) = false := by rw [hq]; rfl
          have k10 : (bt u x == 52) = false := by rw [hq]; rfl
          have k11 : (bt u x == 53) = false := by rw [hq]; rfl
          have k12 : (bt u x == 54) = false := by rw [hq]; rfl
          have k13 : (bt u x == 55) = true := by rw [hq]; rfl
          clear hq
          go_wp2_with fail
          go_meet
          case rel => exact ⟨rfl, rfl, rfl⟩
        · have k0 : (bt u x == 34) = false := by rw [hq]; rfl
          have k1 : (bt u x == 110) = false := by rw [hq]; rfl
          have k2 : (bt u x == 116) = false := by rw [hq]; rfl
          have k3 : (bt u x == 102) = false := by rw [hq]; rfl
          have k4 : (bt u x == 43) = false := by rw [hq]; rfl
          have k5 : (bt u x == 45) = false := by rw [hq]; rfl
          have k6 : (bt u x == 48) = false := by rw [hq]; rfl
          have k7 : (bt u x == 49) = false := by rw [hq]; rfl
          have k8 : (bt u x == 50) = false := by rw [hq]; rfl
          have k9 : (bt u x == 51) = false := by rw [hq]; rfl
          have k10 : (bt u x == 52) = false := by rw [hq]; rfl
          have k11 : (bt u x == 53) = false := by rw [hq]; rfl
          have k12 : (bt u x == 54) = false := by rw [hq]; rfl
          have k13 : (bt u x == 55) = false := by rw [hq]; rfl
          have k14 : (bt u x == 56) = true := by rw [hq]; rfl
          clear hq
          go_wp2_with fail
          go_meet
          case rel => exact ⟨rfl, rfl, rfl⟩
        · have k0 : (bt u x == 34) = false := by rw [hq]; rfl
          have k1 : (bt u x == 110) = false := by rw [hq]; rfl
          have k2 : (bt u x == 116) = false := by rw [hq]; rfl
          have k3 : (bt u x == 102) = false := by rw [hq]; rfl
          have k4 : (bt u x == 43) = false := by rw [hq]; rfl
          have k5 : (bt u x == 45) = false := by rw [hq]; rfl
          have k6 : (bt u x == 48) = false := by rw [hq]; rfl
          have k7 : (bt u x == 49) = false := by rw [hq]; rfl
          have k8 : (bt u x == 50) = false := by rw [hq]; rfl
          have k9 : (bt u x == 51) = false := by rw [hq]; rfl
          have k10 : (bt u x == 52) = false := by rw [hq]; rfl
          have k11 : (bt u x == 53) = false := by rw [hq]; rfl
          have k12 : (bt u x == 54) = false := by rw [hq]; rfl
          have k13 : (bt u x == 55) = false := by rw [hq]; rfl
          have k14 : (bt u x == 56) = false := by rw [hq]; rfl
          have k15 : (bt u x == 57) = true := by rw [hq]; rfl
          clear hq
          go_wp2_with fail
          go_meet
          case rel => exact ⟨rfl, rfl, rfl⟩
      case rest =>
        obtain ⟨rfl, rfl, hwc⟩ := hcut
        subst hwc
        have HNW := Aside0.mk (fun W => show Calls Tryd.prog 50 #[.string u, .int .i64 x] W fun e W' => e = .returned (.tuple #[.int .i64 n, .string RAW]) ∧ ∃ m, W' = W.drewN m by
          have h := num_walk u x n HL.out.size p1 HL.out.lt HL.out.hi HV.out.go HV.out.stop W
          unfold Part at h
          rw [HRAW.out] at h
          exact h)
        have HNS := Aside0.mk (show NumS RAW by have h := HV.out.num; rw [HRAW.out] at h; exact h)
        clear hx2 d1 d2 d3
        go_wp2_with fail
        refine (HNW.out _).mono ?_
        rintro e w5 ⟨rfl, m, hm⟩
        have HV4 := Aside0.mk (show w5.heap[vb]? = some (.cells #[.int .i64 0, .string ⟨#[]⟩, .string ⟨#[]⟩, .float .f64 0, .int .i64 0, .slice none 0 0] 51 (0, 0)) by rw [hm]; exact HX1.out.1)
        have HR4 := Aside0.mk (show w5.heap[rb]? = some (.cells #[.int .i64 0, .string ⟨#[]⟩, .string ⟨#[]⟩, .float .f64 0, .int .i64 0, .slice none 0 0] 51 (0, 0)) by rw [hm]; exact HX1.out.2.1)
        have HB4 := Aside0.mk (show Below rb w w5 by rw [hm]; exact pw_below_drewN HX1.out.2.2 m)
        clear hm
        have s0 := (blk_cell HV4.out 0).trans (rfl : _ = some (Value.int .i64 0))
        have s1 := (blk_cell HV4.out 1).trans (rfl : _ = some (Value.string ⟨#[]⟩))
        have f0 := blk_frozen HV4.out 0
        have f1 := blk_frozen HV4.out 1
        obtain ⟨WA, hWA⟩ : ∃ WA, (w5.setCell ⟨vb, 1, none⟩ (.string RAW)).setCell ⟨vb, 0, none⟩ (.int .i64 2) = WA := ⟨_, rfl⟩
        have HVA := Aside0.mk (show WA.heap[vb]? = some (.cells #[.int .i64 2, .string RAW, .string ⟨#[]⟩, .float .f64 0, .int .i64 0, .slice none 0 0] 51 (0, 0)) by
          rw [← hWA]
          simpa using blk_set (blk_set HV4.out 1 (.string RAW)) 0 (.int .i64 2))
        have HRA := Aside0.mk (show WA.heap[rb]? = some (.cells #[.int .i64 0, .string ⟨#[]⟩, .string ⟨#[]⟩, .float .f64 0, .int .i64 0, .slice none 0 0] 51 (0, 0)) by
          rw [← hWA]
          exact blk_far (blk_far HR4.out (by have := HRV.out; simp; omega) _) (by have := HRV.out; simp; omega) _)
        have HBA := Aside0.mk (show Below rb w WA by
          rw [← hWA]
          exact (HB4.out.setCell (by have := HRV.out; simp; omega) _).setCell (by have := HRV.out; simp; omega) _)
        have HWA := Aside0.mk hWA
        clear hWA
        go_wp2_with fail
        rw [HWA.out]
        refine (float_walk RAW WA HNS.out ((HTV.out.1.below (by rw [HRV.out.2]; exact HBA.out)).mono HBA.out.size) ((HTV.out.2.below (by rw [HRV.out.2]; exact HBA.out)).mono HBA.out.size)).mono ?_
        rintro e w6 ⟨fx, er, rfl, _, hbe⟩
        have HV6 := Aside0.mk (blk_below HVA.out hbe)
        have HR6 := Aside0.mk (blk_below HRA.out hbe)
        have HB6 := Aside0.mk (below_then HBA.out (by have := HBA.out.size; have := HRV.out; omega) hbe)
        have s3 := (blk_cell HV6.out 3).trans (rfl : _ = some (Value.float .f64 0))
        have f3 := blk_frozen HV6.out 3
        clear hbe s0 s1 f0 f1
        go_upto_region 67 with (fail)
        obtain ⟨W5, hW5⟩ : ∃ W5, w6.setCell ⟨vb, 3, none⟩ (.float .f64 fx) = W5 := ⟨_, rfl⟩
        rw [hW5]
        have HV5 := Aside0.mk (show W5.heap[vb]? = some (.cells #[.int .i64 2, .string RAW, .string ⟨#[]⟩, .float .f64 fx, .int .i64 0, .slice none 0 0] 51 (0, 0)) by
          rw [← hW5]
          simpa using blk_set HV6.out 3 (.float .f64 fx))
        have HR5 := Aside0.mk (show W5.heap[rb]? = some (.cells #[.int .i64 0, .string ⟨#[]⟩, .string ⟨#[]⟩, .float .f64 0, .int .i64 0, .slice none 0 0] 51 (0, 0)) by
          rw [← hW5]
          exact blk_far HR6.out (by have := HRV.out; simp; omega) _)
        have HB5 := Aside0.mk (show Below rb w W5 by
          rw [← hW5]
          exact HB6.out.setCell (by have := HRV.out; simp; omega) _)
        clear hW5 s3 f3
        have v0 := (blk_cell HV5.out 0).trans (rfl : _ = some (Value.int .i64 2))
        have v1 := (blk_cell HV5.out 1).trans (rfl : _ = some (Value.string RAW))
        have v2 := (blk_cell HV5.out 2).trans (rfl : _ = some (Value.string ⟨#[]⟩))
        have v3 := (blk_cell HV5.out 3).trans (rfl : _ = some (Value.float .f64 fx))
        have v4 := (blk_cell HV5.out 4).trans (rfl : _ = some (Value.int .i64 0))
        have v5 := (blk_cell HV5.out 5).trans (rfl : _ = some (Value.slice none 0 0))
        have r0 := (blk_cell HR5.out 0).trans (rfl : _ = some (Value.int .i64 0))
        have r1 := (blk_cell HR5.out 1).trans (rfl : _ = some (Value.string ⟨#[]⟩))
        have r2 := (blk_cell HR5.out 2).trans (rfl : _ = some (Value.string ⟨#[]⟩))
        have r3 := (blk_cell HR5.out 3).trans (rfl : _ = some (Value.float .f64 0))
        have r4 := (blk_cell HR5.out 4).trans (rfl : _ = some (Value.int .i64 0))
        have r5 := (blk_cell HR5.out 5).trans (rfl : _ = some (Value.slice none 0 0))
        have g0 := blk_frozen HR5.out 0
        have g1 := blk_frozen HR5.out 1
        have g2 := blk_frozen HR5.out 2
        have g3 := blk_frozen HR5.out 3
        have g4 := blk_frozen HR5.out 4
        have g5 := blk_frozen HR5.out 5
        have m1 : ¬ rb = vb := by have := HRV.out; omega
        have m2 : ¬ vb = rb := by have := HRV.out; omega
        go_still_tail 3, (by kernel_rfl)
        change wpList _ _ _ _ _ W5.drew
        go_wp2
        have hr8 : ((((((W5.setCell ⟨rb, 0, none⟩ (.int .i64 2)).setCell ⟨rb, 1, none⟩ (.string RAW)).setCell ⟨rb, 2, none⟩ (.string ⟨#[]⟩)).setCell ⟨rb, 3, none⟩ (.float .f64 fx)).setCell ⟨rb, 4, none⟩ (.int .i64 0)).setCell ⟨rb, 5, none⟩ (.slice none 0 0)).drew.heap[rb]? = some (.cells #[.int .i64 2, .string RAW, .string ⟨#[]⟩, .float .f64 fx, .int .i64 0, .slice none 0 0] 51 (0, 0)) := by
          refine blk_drew ?_
          simpa using blk_set (blk_set (blk_set (blk_set (blk_set (blk_set HR5.out 0 (.int .i64 2)) 1 (.string RAW)) 2 (.string ⟨#[]⟩)) 3 (.float .f64 fx)) 4 (.int .i64 0)) 5 (.slice none 0 0)
        have HB8 : Below rb w ((((((W5.setCell ⟨rb, 0, none⟩ (.int .i64 2)).setCell ⟨rb, 1, none⟩ (.string RAW)).setCell ⟨rb, 2, none⟩ (.string ⟨#[]⟩)).setCell ⟨rb, 3, none⟩ (.float .f64 fx)).setCell ⟨rb, 4, none⟩ (.int .i64 0)).setCell ⟨rb, 5, none⟩ (.slice none 0 0)).drew := ((((((HB5.out.setCell (by simp) _).setCell (by simp) _).setCell (by simp) _).setCell (by simp) _).setCell (by simp) _).setCell (by simp) _).drew
        obtain ⟨W8, hW8⟩ : ∃ W8, ((((((W5.setCell ⟨rb, 0, none⟩ (.int .i64 2)).setCell ⟨rb, 1, none⟩ (.string RAW)).setCell ⟨rb, 2, none⟩ (.string ⟨#[]⟩)).setCell ⟨rb, 3, none⟩ (.float .f64 fx)).setCell ⟨rb, 4, none⟩ (.int .i64 0)).setCell ⟨rb, 5, none⟩ (.slice none 0 0)).drew = W8 := ⟨_, rfl⟩
        rw [hW8] at hr8 HB8 ⊢
        have y0 := (blk_cell hr8 0).trans (rfl : _ = some (Value.int .i64 2))
        have y1 := (blk_cell hr8 1).trans (rfl : _ = some (Value.string RAW))
        have y2 := (blk_cell hr8 2).trans (rfl : _ = some (Value.string ⟨#[]⟩))
        have y3 := (blk_cell hr8 3).trans (rfl : _ = some (Value.float .f64 fx))
        have y4 := (blk_cell hr8 4).trans (rfl : _ = some (Value.int .i64 0))
        have y5 := (blk_cell hr8 5).trans (rfl : _ = some (Value.slice none 0 0))
        clear hW8 hr8 v0 v1 v2 v3 v4 v5 r0 r1 r2 r3 r4 r5 g0 g1 g2 g3 g4 g5
        refine bodyPost_ret (v := .tuple #[.int .i64 n, .agg #[.int .i64 2, .string RAW, .string ⟨#[]⟩, .float .f64 fx, .int .i64 0, .slice none 0 0], .bool true]) (by simp [results, Tryd.results40, go_sem, y0, y1, y2, y3, y4, y5]) rfl ?_
        exact ⟨_, _, _, _, rfl, by rw [HRV.out.2]; exact HB8⟩
    · have hb := HL.out.blank x HX.out.1 (by have := HX.out; omega)
      have d1 : (bt u x == 123) = false := beq_eq_false_iff_ne.mpr (by omega)
      have d2 : (bt u x == 91) = false := beq_eq_false_iff_ne.mpr (by omega)
      have d3 : decide (bt u x ≤ 32) = true := decide_eq_true hb
      have HEN : Aside0 (x < p) := ⟨by have := HX.out; omega⟩
      clear ce hb
      go_wp2
      go_roundg ((u.size : Int) - (x + 1)).toNat
      case measure => have := HX.out; have := HEN.out; have := HL.out.lt; have := HL.out.hi; omega
      case rel => exact ⟨x + 1, (by first | rfl | (congr 1; omega)), ⟨by have := HX.out; have := HEN.out; omega⟩, rfl⟩
set_option maxRecDepth 100000 in
set_option maxHeartbeats 8000000 in
theorem any_none (u : ByteArray) (i : Int) (hs : (u.size : Int) ≤ 200000) (h0 : 0 ≤ i) (h1 : i ≤ (u.size : Int)) (hb : ∀ x, i ≤ x → x < (u.size : Int) → bt u x ≤ 32) (w : World) :
    Calls Tryd.prog 40 #[.string u, .int .i64 i, .bool true] w fun e w' => e = .returned (.tuple #[.int .i64 (u.size : Int), .agg #[.int .i64 0, .string ⟨#[]⟩, .string ⟨#[]⟩, .float .f64 0, .int .i64 0, .slice none 0 0], .bool false]) ∧ Below w.heap.size w w' := by
  have HL := Aside0.mk (And.intro h1 hb)
  have i4 : i ≤ 200000 := by omega
  have HS := Aside0.mk hs
  clear hb h1
  go_enter Tryd.func40, Tryd.ntmps40
  go_wp2_with fail
  obtain ⟨W1, hW1⟩ : ∃ W1, (w.alloc (.cells #[.int .i64 0, .string ⟨#[]⟩, .string ⟨#[]⟩, .float .f64 0, .int .i64 0, .slice none 0 0] 51)).alloc (.cells #[.int .i64 0, .string ⟨#[]⟩, .string ⟨#[]⟩, .float .f64 0, .int .i64 0, .slice none 0 0] 51) = W1 := ⟨_, rfl⟩
  rw [hW1]
  obtain ⟨rb, hrb⟩ : ∃ rb, w.heap.size = rb := ⟨_, rfl⟩
  obtain ⟨vb, hvb⟩ : ∃ vb, rb + 1 = vb := ⟨_, rfl⟩
  rw [hrb, hvb]
  have HX1 : Aside0 (W1.heap[vb]? = some (.cells #[.int .i64 0, .string ⟨#[]⟩, .string ⟨#[]⟩, .float .f64 0, .int .i64 0, .slice none 0 0] 51 (0, 0)) ∧ W1.heap[rb]? = some (.cells #[.int .i64 0, .string ⟨#[]⟩, .string ⟨#[]⟩, .float .f64 0, .int .i64 0, .slice none 0 0] 51 (0, 0)) ∧ Below rb w W1) := ⟨by
    rw [← hW1, ← hvb, ← hrb]
    refine ⟨?_, blk_alloc (heap_alloc_new w _) _, (Below.alloc ((Below.refl _ _).alloc (by omega) _) (by simp) _)⟩
    have := heap_alloc_new (w.alloc (.cells #[.int .i64 0, .string ⟨#[]⟩, .string ⟨#[]⟩, .float .f64 0, .int .i64 0, .slice none 0 0] 51)) (.cells #[.int .i64 0, .string ⟨#[]⟩, .string ⟨#[]⟩, .float .f64 0, .int .i64 0, .slice none 0 0] 51)
    simpa using this⟩
  have HRV : Aside0 (rb < vb ∧ w.heap.size = rb) := ⟨by omega⟩
  clear hW1 hrb hvb
  go_loopg [1] u.size (fun kq x1 wr => ∃ (x : Int), x1 = .int .i64 x ∧ Aside0 (i ≤ x ∧ x ≤ (u.size : Int) ∧ (kq : Int) ≥ (u.size : Int) - x) ∧ wr = W1)
  case atStart => exact ⟨i, rfl, ⟨by have := HL.out.1; omega⟩, rfl⟩
  case round =>
    obtain ⟨x, rfl, HX, hwr⟩ := hrel
    subst wr
    have p1 : (0 : Int) ≤ x := by have := HX.out; omega
    have p4 : x ≤ 200000 := by have := HX.out; have := HS.out; omega
    have hx2 := bt_at u x
    by_cases ce : x < (u.size : Int)
    · have hb := HL.out.2 x HX.out.1 ce
      have q1 : (x < (u.size : Int)) = True := eq_true ce
      have c1 : decide (x < (u.size : Int)) = true := decide_eq_true ce
      have d1 : (bt u x == 123) = false := beq_eq_false_iff_ne.mpr (by omega)
      have d2 : (bt u x == 91) = false := beq_eq_false_iff_ne.mpr (by omega)
      have d3 : decide (bt u x ≤ 32) = true := decide_eq_true hb
      have HEN := Aside0.mk ce
      clear ce hb
      go_wp2
      go_roundg ((u.size : Int) - (x + 1)).toNat
      case measure => have := HX.out; have := HEN.out; omega
      case rel => exact ⟨x + 1, (by first | rfl | (congr 1; omega)), ⟨by have := HX.out; have := HEN.out; omega⟩, rfl⟩
    · have hxe : x = (u.size : Int) := by have := HX.out; omega
      have q1 : (x < (u.size : Int)) = False := eq_false ce
      have c1 : decide (x < (u.size : Int)) = false := decide_eq_false ce
      have HXE := Aside0.mk hxe
      have HV5 := Aside0.mk HX1.out.1
      have HR5 := Aside0.mk HX1.out.2.1
      have HB5 := Aside0.mk HX1.out.2.2
      clear ce hxe
      go_upto_region 68 with (fail)
      rw [HXE.out]
      have v0 := (blk_cell HV5.out 0).trans (rfl : _ = some (Value.int .i64 0))
      have v1 := (blk_cell HV5.out 1).trans (rfl : _ = some (Value.string ⟨#[]⟩))
      have v2 := (blk_cell HV5.out 2).trans (rfl : _ = some (Value.string ⟨#[]⟩))
      have v3 := (blk_cell HV5.out 3).trans (rfl : _ = some (Value.float .f64 0))
      have v4 := (blk_cell HV5.out 4).trans (rfl : _ = some (Value.int .i64 0))
      have v5 := (blk_cell HV5.out 5).trans (rfl : _ = some (Value.slice none 0 0))
      have r0 := (blk_cell HR5.out 0).trans (rfl : _ = some (Value.int .i64 0))
      have r1 := (blk_cell HR5.out 1).trans (rfl : _ = some (Value.string ⟨#[]⟩))
      have r2 := (blk_cell HR5.out 2).trans (rfl : _ = some (Value.string ⟨#[]⟩))
      have r3 := (blk_cell HR5.out 3).trans (rfl : _ = some (Value.float .f64 0))
      have r4 := (blk_cell HR5.out 4).trans (rfl : _ = some (Value.int .i64 0))
      have r5 := (blk_cell HR5.out 5).trans (rfl : _ = some (Value.slice none 0 0))
      have g0 := blk_frozen HR5.out 0
      have g1 := blk_frozen HR5.out 1
      have g2 := blk_frozen HR5.out 2
      have g3 := blk_frozen HR5.out 3
      have g4 := blk_frozen HR5.out 4
      have g5 := blk_frozen HR5.out 5
      have m1 : ¬ rb = vb := by have := HRV.out; omega
      have m2 : ¬ vb = rb := by have := HRV.out; omega
      go_still_tail 3, (by kernel_rfl)
      change wpList _ _ _ _ _ W1.drew
      go_wp2
      have hr8 : ((((((W1.setCell ⟨rb, 0, none⟩ (.int .i64 0)).setCell ⟨rb, 1, none⟩ (.string ⟨#[]⟩)).setCell ⟨rb, 2, none⟩ (.string ⟨#[]⟩)).setCell ⟨rb, 3, none⟩ (.float .f64 0)).setCell ⟨rb, 4, none⟩ (.int .i64 0)).setCell ⟨rb, 5, none⟩ (.slice none 0 0)).drew.heap[rb]? = some (.cells #[.int .i64 0, .string ⟨#[]⟩, .string ⟨#[]⟩, .float .f64 0, .int .i64 0, .slice none 0 0] 51 (0, 0)) := by
        refine blk_drew ?_
        simpa using blk_set (blk_set (blk_set (blk_set (blk_set (blk_set HR5.out 0 (.int .i64 0)) 1 (.string ⟨#[]⟩)) 2 (.string ⟨#[]⟩)) 3 (.float .f64 0)) 4 (.int .i64 0)) 5 (.slice none 0 0)
      have HB8 : Below rb w ((((((W1.setCell ⟨rb, 0, none⟩ (.int .i64 0)).setCell ⟨rb, 1, none⟩ (.string ⟨#[]⟩)).setCell ⟨rb, 2, none⟩ (.string ⟨#[]⟩)).setCell ⟨rb, 3, none⟩ (.float .f64 0)).setCell ⟨rb, 4, none⟩ (.int .i64 0)).setCell ⟨rb, 5, none⟩ (.slice none 0 0)).drew := ((((((HB5.out.setCell (by simp) _).setCell (by simp) _).setCell (by simp) _).setCell (by simp) _).setCell (by simp) _).setCell (by simp) _).drew
      obtain ⟨W8, hW8⟩ : ∃ W8, ((((((W1.setCell ⟨rb, 0, none⟩ (.int .i64 0)).setCell ⟨rb, 1, none⟩ (.string ⟨#[]⟩)).setCell ⟨rb, 2, none⟩ (.string ⟨#[]⟩)).setCell ⟨rb, 3, none⟩ (.float .f64 0)).setCell ⟨rb, 4, none⟩ (.int .i64 0)).setCell ⟨rb, 5, none⟩ (.slice none 0 0)).drew = W8 := ⟨_, rfl⟩
      rw [hW8] at hr8 HB8 ⊢
      have y0 := (blk_cell hr8 0).trans (rfl : _ = some (Value.int .i64 0))
      have y1 := (blk_cell hr8 1).trans (rfl : _ = some (Value.string ⟨#[]⟩))
      have y2 := (blk_cell hr8 2).trans (rfl : _ = some (Value.string ⟨#[]⟩))
      have y3 := (blk_cell hr8 3).trans (rfl : _ = some (Value.float .f64 0))
      have y4 := (blk_cell hr8 4).trans (rfl : _ = some (Value.int .i64 0))
      have y5 := (blk_cell hr8 5).trans (rfl : _ = some (Value.slice none 0 0))
      clear hW8 hr8 v0 v1 v2 v3 v4 v5 r0 r1 r2 r3 r4 r5 g0 g1 g2 g3 g4 g5
      refine bodyPost_ret (v := .tuple #[.int .i64 (u.size : Int), .agg #[.int .i64 0, .string ⟨#[]⟩, .string ⟨#[]⟩, .float .f64 0, .int .i64 0, .slice none 0 0], .bool false]) (by simp [results, Tryd.results40, go_sem, y0, y1, y2, y3, y4, y5]) rfl ?_
      exact ⟨rfl, by rw [HRV.out.2]; exact HB8⟩
theorem any_val (u : ByteArray) (i p n : Int) (hL : Lead2 u i p n) (hV : ValAt u p n) (w : World) (hT : VTab w) (hA : Tabs w w.heap.size) (hE : ErrVars w w.heap.size) :
    Calls Tryd.prog 40 #[.string u, .int .i64 i, .bool true] w (AnyPost u p n w) := by
  rcases hV.is with h | h | h | h
  · exact any_list u i p n hL h w hT
  · exact any_str u i p n hL h w
  · exact any_word u i p n hL h w
  · exact any_num u i p n hL h w hA hE
end Go.Proofs.YtldfejbmdonaoaaDoor.La