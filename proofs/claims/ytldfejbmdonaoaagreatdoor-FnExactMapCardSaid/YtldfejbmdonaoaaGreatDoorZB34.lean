/- Joined by a program of mine from texts of this claim: Gn. -/
import Derived.Test.YtldfejbmdonaoaaGreatDoorZB28
import Derived.Test.YtldfejbmdonaoaaGreatDoorZB33
import Derived.Deep.CutBlock
import Derived.Deep.DeepCutAuto
namespace Go.Proofs.YtldfejbmdonaoaaGreatDoor.Gn
open Go.RowKit YtldfejbmdonaoaaGreatDoorW.PrintWords YtldfejbmdonaoaaGreatDoorW.PrintLast YtldfejbmdonaoaaGreatDoorW.PrintMore Tp Te Gp Gv At Pz Nx
set_option linter.unusedVariables false
set_option linter.unusedSimpArgs false
set_option maxRecDepth 100000 in
set_option maxHeartbeats 8000000 in
theorem exists_null (a : ByteArray) (ha : 0 < a.size) (b c d f : Value) (w : World) : Calls Tryz.prog 43 #[.agg #[.int .i64 0, .string a, b, c, d, f]] w fun e w' => e = .returned (.bool true) ∧ Below w.heap.size w w' := by
  have d1 : (a = ByteArray.empty) = False := eq_false (by rintro rfl; exact absurd ha (by decide))
  have d2 : ((a.size : Int) != 0) = true := bne_iff_ne.mpr (by omega)
  have d3 : (0 != (a.size : Int)) = true := bne_iff_ne.mpr (by omega)
  have d4 : ¬ a.size = 0 := by omega
  have HB := Aside0.mk ((Below.refl w.heap.size w).alloc (Nat.le_refl _) (Obj.cells #[.int .i64 0, .string a, b, c, d, f] 50))
  go_enter Tryz.func43, Tryz.ntmps43
  go_wp2
  go_ret
  exact ⟨rfl, HB.out⟩
theorem exists_any (k : Int) (a : ByteArray) (h : k ≠ 0 ∨ 0 < a.size) (b c d f : Value) (w : World) : Calls Tryz.prog 43 #[.agg #[.int .i64 k, .string a, b, c, d, f]] w fun e w' => e = .returned (.bool true) ∧ Below w.heap.size w w' := by
  by_cases hk : k = 0
  · subst hk
    exact exists_null a (h.resolve_left fun h => h rfl) b c d f w
  · exact exists_walk k hk _ b c d f w
structure Lead (u : ByteArray) (i0 : Int) : Prop where
  size : (u.size : Int) ≤ 70000
  lo : 0 ≤ i0
  lt : i0 < (u.size : Int)
  blank : ∀ q, 0 ≤ q → q < i0 → bt u q ≤ 32 ∧ 0 ≤ bt u q
def Shape (u : ByteArray) (i0 K n : Int) : Prop :=
  K = 5 ∧ (bt u i0 = 123 ∨ bt u i0 = 91) ∧ n = (u.size : Int)
  ∨ K = 2 ∧ numBad u i0 = false ∧ n = numEnd u i0 ∧ (n < (u.size : Int) → stopc (bt u n))
  ∨ (K = 4 ∧ bt u i0 = 116 ∧ n = i0 + 4 ∨ K = 1 ∧ bt u i0 = 102 ∧ n = i0 + 5 ∨ K = 0 ∧ bt u i0 = 110 ∧ n = i0 + 4 ∧ bt u (i0 + 1) = 117) ∧ n ≤ (u.size : Int) ∧ (∀ x, i0 < x → x < n → 97 ≤ bt u x ∧ bt u x ≤ 122) ∧ (n < (u.size : Int) → ¬ (97 ≤ bt u n ∧ bt u n ≤ 122))
theorem first_dig {c : Int} (h : dg c = true ∨ c = 45) : c = 45 ∨ c = 48 ∨ c = 49 ∨ c = 50 ∨ c = 51 ∨ c = 52 ∨ c = 53 ∨ c = 54 ∨ c = 55 ∨ c = 56 ∨ c = 57 := by
  rcases h with h | h
  · have := dg_iff.mp h; omega
  · omega
theorem Shape.le {u : ByteArray} {i0 K n : Int} (h : Shape u i0 K n) (hL : Lead u i0) : i0 < n ∧ n ≤ (u.size : Int) := by
  have := hL.lt
  rcases h with ⟨_, _, rfl⟩ | ⟨_, hb, rfl, _⟩ | ⟨h, hle, _⟩
  · omega
  · have h1 := num_gt hb
    have h2 := nSign_le (s := u) (i := i0) (by omega)
    have h3 := numEnd_le (s := u) (i := i0) (by omega)
    omega
  · omega
set_option maxRecDepth 100000 in
set_option maxHeartbeats 8000000 in
theorem parse_other (u : ByteArray) (i0 K n : Int) (hL : Lead u i0) (hH : Shape u i0 K n) (w : World) (hT : Tabs w w.heap.size) (hV : ErrVars w w.heap.size) :
    Calls Tryz.prog 24 #[.string u] w fun e w' => ∃ x : Nat, e = .returned (.agg #[.int .i64 K, .string (u.extract i0.toNat n.toNat), .string ⟨#[]⟩, .float .f64 x, .int .i64 i0, .slice none 0 0]) ∧ (K = 2 → ExactX (u.extract i0.toNat n.toNat) x) ∧ Below w.heap.size w w' := by
  have HS := Aside0.mk hL.size
  have HI0 := Aside0.mk hL.lo
  have HBL := Aside0.mk hL.blank
  have HLT := Aside0.mk hL.lt
  have HLE := Aside0.mk (hH.le hL)
  have HH := Aside0.mk hH
  have HTV := Aside0.mk (And.intro hT hV)
  obtain ⟨RAW, hRAW⟩ : ∃ RAW, u.extract i0.toNat n.toNat = RAW := ⟨_, rfl⟩
  have HRAW := Aside0.mk hRAW
  have HRS := Aside0.mk (show 0 < RAW.size by rw [← hRAW, ByteArray.size_extract]; have := hH.le hL; have := hL.lo; omega)
  rw [hRAW]
  clear hL hH hT hV hRAW
  go_enter Tryz.func24, Tryz.ntmps24
  go_upto_block 0 with (fail)
  obtain ⟨W1, hW1⟩ : ∃ W1, (w.alloc (.cells #[.int .i64 0, .string ⟨#[]⟩, .string ⟨#[]⟩, .float .f64 0, .int .i64 0, .slice none 0 0] 50)).alloc (.cells #[.int .i64 0, .string ⟨#[]⟩, .string ⟨#[]⟩, .float .f64 0, .int .i64 0, .slice none 0 0] 50) = W1 := ⟨_, rfl⟩
  rw [hW1]
  obtain ⟨rb, hrb⟩ : ∃ rb, w.heap.size = rb := ⟨_, rfl⟩
  obtain ⟨vb, hvb⟩ : ∃ vb, rb + 1 = vb := ⟨_, rfl⟩
  rw [hrb, hvb]
  have HX1 : Aside0 (W1.heap[vb]? = some (.cells #[.int .i64 0, .string ⟨#[]⟩, .string ⟨#[]⟩, .float .f64 0, .int .i64 0, .slice none 0 0] 50 (0, 0)) ∧ W1.heap[rb]? = some (.cells #[.int .i64 0, .string ⟨#[]⟩, .string ⟨#[]⟩, .float .f64 0, .int .i64 0, .slice none 0 0] 50 (0, 0)) ∧ Below rb w W1) := ⟨by
    rw [← hW1, ← hvb, ← hrb]
    refine ⟨?_, blk_alloc (heap_alloc_new w _) _, (Below.alloc ((Below.refl _ _).alloc (by omega) _) (by simp) _)⟩
    have := heap_alloc_new (w.alloc (.cells #[.int .i64 0, .string ⟨#[]⟩, .string ⟨#[]⟩, .float .f64 0, .int .i64 0, .slice none 0 0] 50)) (.cells #[.int .i64 0, .string ⟨#[]⟩, .string ⟨#[]⟩, .float .f64 0, .int .i64 0, .slice none 0 0] 50)
    simpa using this⟩
  have HRV : Aside0 (rb < vb ∧ w.heap.size = rb) := ⟨by omega⟩
  clear hW1 hrb hvb
  go_cut [4] (fun x4 wc => ∃ x : Nat, x4 = .int .i64 i0 ∧ Aside0 (K = 2 → ExactX RAW x) ∧ Aside0 (wc.heap[vb]? = some (.cells #[.int .i64 K, .string RAW, .string ⟨#[]⟩, .float .f64 x, .int .i64 0, .slice none 0 0] 50 (0, 0)) ∧ wc.heap[rb]? = some (.cells #[.int .i64 0, .string ⟨#[]⟩, .string ⟨#[]⟩, .float .f64 0, .int .i64 0, .slice none 0 0] 50 (0, 0)) ∧ Below rb w wc))
  case first => as_aux_lemma =>
    go_wp2_with fail
    go_loopg [4] u.size (fun kq x4 wr => ∃ (i : Int), x4 = .int .i64 i ∧ Aside0 (0 ≤ i ∧ i ≤ i0 ∧ (kq : Int) ≥ (u.size : Int) - i) ∧ wr = W1)
    case atStart => exact ⟨0, rfl, ⟨by have := HI0.out; omega⟩, rfl⟩
    case round =>
      obtain ⟨i, rfl, HI, rfl⟩ := hrel
      have p1 : (0 : Int) ≤ i := HI.out.1
      have p4 : i ≤ 70000 := by have := HS.out; have := HI.out; have := HLT.out; omega
      have q1 : (i < (u.size : Int)) = True := eq_true (by have := HI.out; have := HLT.out; omega)
      have c1 : decide (i < (u.size : Int)) = true := decide_eq_true (by have := HI.out; have := HLT.out; omega)
      have hx2 := bt_at u i
      by_cases ce : i = i0
      · subst ce
        have q2 : (i ≤ (u.size : Int)) = True := eq_true (by have := HLT.out; omega)
        have hc := HX1.out.1
        have t0 := (blk_cell hc 0).trans (rfl : _ = some (Value.int .i64 0))
        have t1 := (blk_cell hc 1).trans (rfl : _ = some (Value.string ⟨#[]⟩))
        have t3 := (blk_cell hc 3).trans (rfl : _ = some (Value.float .f64 0))
        have f0 := blk_frozen hc 0
        have f1 := blk_frozen hc 1
        have f3 := blk_frozen hc 3
        have htb := Aside0.mk (tail_bt (s := u) p1 (of_eq_true q2))
        have hts := Aside0.mk (tail_size (s := u) p1 (of_eq_true q2))
        have hcut0 := Aside0.mk (tail_cut (u := u) (i := i) (j := n) p1 (by have := HLE.out; omega) HLE.out.2)
        have hvr := Aside0.mk (show vb ≠ rb by have := HRV.out; omega)
        clear hc
        rcases HH.out with ⟨rfl, hcc, hn⟩ | ⟨rfl, hnb, hn, hst⟩ | ⟨hw, hle, hmid, hend⟩
        · have hraw : u.extract i.toNat u.size = RAW := by rw [← HRAW.out, hn, Int.toNat_natCast]
          clear hn
          have HC := Aside0.mk hcc
          clear hcc
          rcases HC.out with d1 | d1
          all_goals
            clear HC
            go_wp2
            repeat (go_quiet (fail); try go_wp2)
            go_meet
            case rel =>
              refine ⟨0, rfl, ⟨fun h => absurd h (by decide)⟩, ?_, blk_far (blk_far HX1.out.2.1 (by simpa using hvr.out.symm) _) (by simpa using hvr.out.symm) _, (HX1.out.2.2.setCell (by have := HRV.out; simp; omega) _).setCell (by have := HRV.out; simp; omega) _⟩
              simpa using blk_set (blk_set HX1.out.1 0 (.int .i64 5)) 1 (.string RAW)
        · have hf := first_dig (c := bt u i) (by
            have h2 := (num_gt hnb).2
            unfold nSign at h2
            by_cases h : bt u i = 45
            · exact .inr h
            · rw [if_neg h] at h2; exact .inl h2)
          have HTX := num_text (s := u) (i := i) p1 HS.out hnb (by have := HLT.out; omega)
          rw [← hn] at HTX
          have hgo : ∀ x, 1 ≤ x → x < n - i → ¬ stopc (bt (u.extract i.toNat u.size) x) := fun x hx0 hx1 => by
            rw [htb.out x (by omega)]
            exact numc_go (num_bytes (i := i) (by omega) (by omega))
          have hst2 : n - i < ((u.extract i.toNat u.size).size : Int) → stopc (bt (u.extract i.toNat u.size) (n - i)) := fun hlt => by
            rw [hts.out] at hlt
            rw [htb.out _ (by omega), show i + (n - i) = n by omega]
            exact hst (by omega)
          have HTN := Aside0.mk (fun (W : World) (hW : Below rb w W) => tonum_walk (u.extract i.toNat u.size) (n - i) W (by omega) (by rw [hts.out]; omega) (by rw [hts.out]; have := HS.out; omega) hgo hst2 (by rw [hcut0.out]; exact HTX.1)
            ((HTV.out.1.below (by rw [HRV.out.2]; exact hW)).mono hW.size) ((HTV.out.2.below (by rw [HRV.out.2]; exact hW)).mono hW.size))
          clear hn hst hnb HTX hgo hst2
          have HF := Aside0.mk hf
          clear hf
          rcases HF.out with hq | hq | hq | hq | hq | hq | hq | hq | hq | hq | hq
          all_goals
            clear HF
            rw [hq] at hx2
            go_wp2_with fail
            refine (HTN.out _ (HX1.out.2.2.setCell (by have := HRV.out; simp; omega) _)).mono ?_
            rintro e w5 ⟨x, rfl, hex5, hbe⟩
            have HEX5 := Aside0.mk hex5
            clear hex5
            have hv := blk_below (show (wr.setCell ⟨vb, 0, none⟩ (.int .i64 2)).heap[vb]? = some (.cells #[.int .i64 2, .string ⟨#[]⟩, .string ⟨#[]⟩, .float .f64 0, .int .i64 0, .slice none 0 0] 50 (0, 0)) by simpa using blk_set HX1.out.1 0 (.int .i64 2)) hbe
            have hr := blk_below (blk_far HX1.out.2.1 (p := ⟨vb, 0, none⟩) (by simpa using hvr.out.symm) (.int .i64 2)) hbe
            have hb5 := below_then (HX1.out.2.2.setCell (p := ⟨vb, 0, none⟩) (by have := HRV.out; simp; omega) (.int .i64 2)) (by have := HX1.out.2.2.size; have := HRV.out; simp; omega) hbe
            have HV5 := Aside0.mk hv
            have HR5 := Aside0.mk hr
            have HB5 := Aside0.mk hb5
            have s1 := (blk_cell hv 1).trans (rfl : _ = some (Value.string ⟨#[]⟩))
            have s3 := (blk_cell hv 3).trans (rfl : _ = some (Value.float .f64 0))
            have g1 := blk_frozen hv 1
            have g3 := blk_frozen hv 3
            clear hv hr hb5 hbe t0 t1 t3 f0 f1 f3
            go_wp2_with fail
            go_meet
            case rel =>
              refine ⟨x, rfl, ⟨fun _ => by have h := HEX5.out; rw [hcut0.out, HRAW.out] at h; exact h⟩, ?_, blk_far (blk_far HR5.out (by simpa using hvr.out.symm) _) (by simpa using hvr.out.symm) _, (HB5.out.setCell (by have := HRV.out; simp; omega) _).setCell (by have := HRV.out; simp; omega) _⟩
              have h := blk_set (blk_set HV5.out 1 (.string ((u.extract i.toNat u.size).extract 0 (n - i).toNat))) 3 (.float .f64 x)
              rw [hcut0.out, HRAW.out] at h
              rw [hcut0.out, HRAW.out]
              simpa using h
        · have hgo : ∀ x, 1 ≤ x → x < n - i → 97 ≤ bt (u.extract i.toNat u.size) x ∧ bt (u.extract i.toNat u.size) x ≤ 122 := fun x hx0 hx1 => by
            rw [htb.out x (by omega)]
            exact hmid _ (by omega) (by omega)
          have hst2 : n - i < ((u.extract i.toNat u.size).size : Int) → ¬ (97 ≤ bt (u.extract i.toNat u.size) (n - i) ∧ bt (u.extract i.toNat u.size) (n - i) ≤ 122) := fun hlt => by
            rw [hts.out] at hlt
            rw [htb.out _ (by omega), show i + (n - i) = n by omega]
            exact hend (by omega)
          have HTN := Aside0.mk (fun (W : World) => by
            have h := tolit_walk (u.extract i.toNat u.size) (n - i) W (by have := HLE.out; omega) (by rw [hts.out]; omega) (by rw [hts.out]; have := HS.out; omega) hgo hst2
            unfold LitPost at h
            rw [hcut0.out, HRAW.out] at h
            exact h)
          clear hmid hend hgo hst2
          have HW := Aside0.mk hw
          clear hw
          rcases HW.out with ⟨rfl, hq, hn⟩ | ⟨rfl, hq, hn⟩ | ⟨rfl, hq, hn, hu⟩
          all_goals
            clear HW
            rw [hq] at hx2
            have HN := Aside0.mk hn
            clear hn
            try
              (have q5 : (i + 1 < (u.size : Int)) = True := eq_true (by have := HN.out; omega)
               have q6 : decide (i + 1 < (u.size : Int)) = true := decide_eq_true (by have := HN.out; omega)
               have hx3 := bt_at u (i + 1)
               rw [hu] at hx3)
            go_wp2_with fail
            refine (HTN.out _).mono ?_
            rintro e w5 ⟨rfl, rfl⟩
            go_wp2_with fail
            go_meet
            case rel =>
              refine ⟨0, rfl, ⟨fun h => absurd h (by decide)⟩, ?_, blk_far (blk_far HX1.out.2.1 (by simpa using hvr.out.symm) _) (by simpa using hvr.out.symm) _, (HX1.out.2.2.setCell (by have := HRV.out; simp; omega) _).setCell (by have := HRV.out; simp; omega) _⟩
              first
                | simpa using blk_set (blk_set HX1.out.1 0 (.int .i64 4)) 1 (.string RAW)
                | simpa using blk_set (blk_set HX1.out.1 0 (.int .i64 1)) 1 (.string RAW)
                | simpa using blk_set (blk_set HX1.out.1 0 (.int .i64 0)) 1 (.string RAW)
      · have hb := HBL.out i p1 (by have := HI.out; omega)
        have d1 : (bt u i == 123) = false := beq_eq_false_iff_ne.mpr (by omega)
        have d2 : (bt u i == 91) = false := beq_eq_false_iff_ne.mpr (by omega)
        have d3 : decide (bt u i ≤ 32) = true := decide_eq_true hb.1
        have HEN : Aside0 (i < i0) := ⟨by have := HI.out; omega⟩
        clear ce hb
        go_wp2
        go_roundg ((u.size : Int) - (i + 1)).toNat
        case measure => have := HI.out; have := HEN.out; have := HLT.out; omega
        case rel => exact ⟨i + 1, (by first | rfl | (congr 1; omega)), ⟨by have := HI.out; have := HEN.out; have := HLT.out; omega⟩, rfl⟩
  case rest => as_aux_lemma =>
    clear HX1
    obtain ⟨x, rfl, HEX, HX⟩ := hcut
    have hv5 := HX.out.1
    have k0 := (blk_cell hv5 0).trans (rfl : _ = some (Value.int .i64 K))
    have k1 := (blk_cell hv5 1).trans (rfl : _ = some (Value.string RAW))
    have k2 := (blk_cell hv5 2).trans (rfl : _ = some (Value.string ⟨#[]⟩))
    have k3 := (blk_cell hv5 3).trans (rfl : _ = some (Value.float .f64 x))
    have k4 := (blk_cell hv5 4).trans (rfl : _ = some (Value.int .i64 0))
    have k5 := (blk_cell hv5 5).trans (rfl : _ = some (Value.slice none 0 0))
    clear hv5
    go_wp2_with fail
    refine (exists_any K RAW (.inr HRS.out) _ _ _ _ _).mono ?_
    rintro e w6 ⟨rfl, hbe⟩
    have HV6 := Aside0.mk (blk_below HX.out.1 hbe)
    have HR6 := Aside0.mk (blk_below HX.out.2.1 hbe)
    have HB6 := Aside0.mk (below_then HX.out.2.2 (by have := HX.out.2.2.size; have := HRV.out; omega) hbe)
    have f4 := blk_frozen HV6.out 4
    have x4 := (blk_cell HV6.out 4).trans (rfl : _ = some (Value.int .i64 0))
    clear hbe k0 k1 k2 k3 k4 k5
    go_upto_region 45 with (fail)
    have hv7 : (w6.setCell ⟨vb, 4, none⟩ (.int .i64 i0)).heap[vb]? = some (.cells #[.int .i64 K, .string RAW, .string ⟨#[]⟩, .float .f64 x, .int .i64 i0, .slice none 0 0] 50 (0, 0)) := by simpa using blk_set HV6.out 4 (.int .i64 i0)
    have hr7 := blk_far HR6.out (p := ⟨vb, 4, none⟩) (by have := HRV.out; simp; omega) (.int .i64 i0)
    have hb7 := HB6.out.setCell (p := ⟨vb, 4, none⟩) (by have := HRV.out; simp; omega) (.int .i64 i0)
    obtain ⟨W7, hW7⟩ : ∃ W7, w6.setCell ⟨vb, 4, none⟩ (.int .i64 i0) = W7 := ⟨_, rfl⟩
    rw [hW7] at hv7 hr7 hb7 ⊢
    have HB7 := Aside0.mk hb7
    have v0 := (blk_cell hv7 0).trans (rfl : _ = some (Value.int .i64 K))
    have v1 := (blk_cell hv7 1).trans (rfl : _ = some (Value.string RAW))
    have v2 := (blk_cell hv7 2).trans (rfl : _ = some (Value.string ⟨#[]⟩))
    have v3 := (blk_cell hv7 3).trans (rfl : _ = some (Value.float .f64 x))
    have v4 := (blk_cell hv7 4).trans (rfl : _ = some (Value.int .i64 i0))
    have v5 := (blk_cell hv7 5).trans (rfl : _ = some (Value.slice none 0 0))
    have r0 := (blk_cell hr7 0).trans (rfl : _ = some (Value.int .i64 0))
    have r1 := (blk_cell hr7 1).trans (rfl : _ = some (Value.string ⟨#[]⟩))
    have r2 := (blk_cell hr7 2).trans (rfl : _ = some (Value.string ⟨#[]⟩))
    have r3 := (blk_cell hr7 3).trans (rfl : _ = some (Value.float .f64 0))
    have r4 := (blk_cell hr7 4).trans (rfl : _ = some (Value.int .i64 0))
    have r5 := (blk_cell hr7 5).trans (rfl : _ = some (Value.slice none 0 0))
    have g0 := blk_frozen hr7 0
    have g1 := blk_frozen hr7 1
    have g2 := blk_frozen hr7 2
    have g3 := blk_frozen hr7 3
    have g4 := blk_frozen hr7 4
    have g5 := blk_frozen hr7 5
    have m1 : ¬ rb = vb := by have := HRV.out; omega
    have m2 : ¬ vb = rb := by have := HRV.out; omega
    have hr8 : ((((((W7.setCell ⟨rb, 0, none⟩ (.int .i64 K)).setCell ⟨rb, 1, none⟩ (.string RAW)).setCell ⟨rb, 2, none⟩ (.string ⟨#[]⟩)).setCell ⟨rb, 3, none⟩ (.float .f64 x)).setCell ⟨rb, 4, none⟩ (.int .i64 i0)).setCell ⟨rb, 5, none⟩ (.slice none 0 0)).heap[rb]? = some (.cells #[.int .i64 K, .string RAW, .string ⟨#[]⟩, .float .f64 x, .int .i64 i0, .slice none 0 0] 50 (0, 0)) := by
      simpa using blk_set (blk_set (blk_set (blk_set (blk_set (blk_set hr7 0 (.int .i64 K)) 1 (.string RAW)) 2 (.string ⟨#[]⟩)) 3 (.float .f64 x)) 4 (.int .i64 i0)) 5 (.slice none 0 0)
    have HR8 := Aside0.mk hr8
    clear hW7 hv7 hr7 hr8 hb7 x4 f4
    go_wp2_with fail
    have HB8 : Below rb w ((((((W7.setCell ⟨rb, 0, none⟩ (.int .i64 K)).setCell ⟨rb, 1, none⟩ (.string RAW)).setCell ⟨rb, 2, none⟩ (.string ⟨#[]⟩)).setCell ⟨rb, 3, none⟩ (.float .f64 x)).setCell ⟨rb, 4, none⟩ (.int .i64 i0)).setCell ⟨rb, 5, none⟩ (.slice none 0 0)) := (((((HB7.out.setCell (by simp) _).setCell (by simp) _).setCell (by simp) _).setCell (by simp) _).setCell (by simp) _).setCell (by simp) _
    have hr8 := HR8.out
    clear HR8
    obtain ⟨W8, hW8⟩ : ∃ W8, (((((W7.setCell ⟨rb, 0, none⟩ (.int .i64 K)).setCell ⟨rb, 1, none⟩ (.string RAW)).setCell ⟨rb, 2, none⟩ (.string ⟨#[]⟩)).setCell ⟨rb, 3, none⟩ (.float .f64 x)).setCell ⟨rb, 4, none⟩ (.int .i64 i0)).setCell ⟨rb, 5, none⟩ (.slice none 0 0) = W8 := ⟨_, rfl⟩
    rw [hW8] at hr8 HB8 ⊢
    have s0 := (blk_cell hr8 0).trans (rfl : _ = some (Value.int .i64 K))
    have s1 := (blk_cell hr8 1).trans (rfl : _ = some (Value.string RAW))
    have s2 := (blk_cell hr8 2).trans (rfl : _ = some (Value.string ⟨#[]⟩))
    have s3 := (blk_cell hr8 3).trans (rfl : _ = some (Value.float .f64 x))
    have s4 := (blk_cell hr8 4).trans (rfl : _ = some (Value.int .i64 i0))
    have s5 := (blk_cell hr8 5).trans (rfl : _ = some (Value.slice none 0 0))
    clear hW8 hr8
    refine bodyPost_ret (v := .agg #[.int .i64 K, .string RAW, .string ⟨#[]⟩, .float .f64 x, .int .i64 i0, .slice none 0 0]) (by simp [results, Tryz.results24, go_sem, s0, s1, s2, s3, s4, s5]) rfl ?_
    exact ⟨x, rfl, HEX.out, by rw [HRV.out.2]; exact HB8⟩
end Go.Proofs.YtldfejbmdonaoaaGreatDoor.Gn