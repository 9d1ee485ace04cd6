/- Joined by a program of mine from texts of this claim: Gi, An. -/
import Derived.Test.YtldfejbmdonaoaaGreatDoorZA35
import Derived.Test.YtldfejbmdonaoaaGreatDoorZA45
namespace Go.Proofs.YtldfejbmdonaoaaGreatDoor.Gi
open Go.RowKit YtldfejbmdonaoaaGreatDoorW.PrintWords YtldfejbmdonaoaaGreatDoorW.PrintLast YtldfejbmdonaoaaGreatDoorW.PrintMore Tp Te Gp Gv At Pz Nx Gn
set_option linter.unusedVariables false
set_option linter.unusedSimpArgs false
set_option maxRecDepth 100000 in
set_option maxHeartbeats 8000000 in
theorem value_any (k : Int) (a : ByteArray) (hk : k ≠ 0 ∨ 0 < a.size) (b : ByteArray) (c : Nat) (d : Int) (A : Option Addr) (n m : Nat) (w : World) : Calls Tryz.prog 28 #[.agg #[.int .i64 k, .string a, .string b, .float .f64 c, .int .i64 d, .slice A n m]] w fun e w' => e = .returned (.agg #[.int .i64 k, .string a, .string b, .float .f64 c, .int .i64 d, .bool true]) ∧ Below w.heap.size w w' := by
  have HK := Aside0.mk hk
  clear hk
  go_enter Tryz.func28, Tryz.ntmps28
  go_wp2_with fail
  have hz : w.heap.size + 1 < ((w.alloc (.cells #[.int .i64 k, .string a, .string b, .float .f64 c, .int .i64 d, .slice A n m] 50)).alloc (.cells #[.int .i64 0, .string ⟨#[]⟩, .string ⟨#[]⟩, .float .f64 0, .int .i64 0, .bool false] 35)).heap.size := by simp
  have hp : ((w.alloc (.cells #[.int .i64 k, .string a, .string b, .float .f64 c, .int .i64 d, .slice A n m] 50)).alloc (.cells #[.int .i64 0, .string ⟨#[]⟩, .string ⟨#[]⟩, .float .f64 0, .int .i64 0, .bool false] 35)).heap[w.heap.size]? = some (.cells #[.int .i64 k, .string a, .string b, .float .f64 c, .int .i64 d, .slice A n m] 50 (0, 0)) := blk_alloc (heap_alloc_new w _) _
  have hr : ((w.alloc (.cells #[.int .i64 k, .string a, .string b, .float .f64 c, .int .i64 d, .slice A n m] 50)).alloc (.cells #[.int .i64 0, .string ⟨#[]⟩, .string ⟨#[]⟩, .float .f64 0, .int .i64 0, .bool false] 35)).heap[w.heap.size + 1]? = some (.cells #[.int .i64 0, .string ⟨#[]⟩, .string ⟨#[]⟩, .float .f64 0, .int .i64 0, .bool false] 35 (0, 0)) := by
    have := heap_alloc_new (w.alloc (.cells #[.int .i64 k, .string a, .string b, .float .f64 c, .int .i64 d, .slice A n m] 50)) (.cells #[.int .i64 0, .string ⟨#[]⟩, .string ⟨#[]⟩, .float .f64 0, .int .i64 0, .bool false] 35)
    simpa using this
  have hb : Below w.heap.size w ((w.alloc (.cells #[.int .i64 k, .string a, .string b, .float .f64 c, .int .i64 d, .slice A n m] 50)).alloc (.cells #[.int .i64 0, .string ⟨#[]⟩, .string ⟨#[]⟩, .float .f64 0, .int .i64 0, .bool false] 35)) := Below.alloc ((Below.refl _ _).alloc (by omega) _) (by simp) _
  obtain ⟨W1, hW1⟩ : ∃ W1, (w.alloc (.cells #[.int .i64 k, .string a, .string b, .float .f64 c, .int .i64 d, .slice A n m] 50)).alloc (.cells #[.int .i64 0, .string ⟨#[]⟩, .string ⟨#[]⟩, .float .f64 0, .int .i64 0, .bool false] 35) = W1 := ⟨_, rfl⟩
  rw [hW1] at hz hp hr hb ⊢
  have HB := Aside0.mk hb
  have HZ := Aside0.mk hz
  have p0 := (blk_cell hp 0).trans (rfl : _ = some (Value.int .i64 k))
  have p1 := (blk_cell hp 1).trans (rfl : _ = some (Value.string a))
  have p2 := (blk_cell hp 2).trans (rfl : _ = some (Value.string b))
  have p3 := (blk_cell hp 3).trans (rfl : _ = some (Value.float .f64 c))
  have p4 := (blk_cell hp 4).trans (rfl : _ = some (Value.int .i64 d))
  have p5 := (blk_cell hp 5).trans (rfl : _ = some (Value.slice A n m))
  have r0 := (blk_cell hr 0).trans (rfl : _ = some (Value.int .i64 0))
  have r1 := (blk_cell hr 1).trans (rfl : _ = some (Value.string ⟨#[]⟩))
  have r2 := (blk_cell hr 2).trans (rfl : _ = some (Value.string ⟨#[]⟩))
  have r3 := (blk_cell hr 3).trans (rfl : _ = some (Value.float .f64 0))
  have r4 := (blk_cell hr 4).trans (rfl : _ = some (Value.int .i64 0))
  have r5 := (blk_cell hr 5).trans (rfl : _ = some (Value.bool false))
  have g0 := blk_frozen hr 0
  have g1 := blk_frozen hr 1
  have g2 := blk_frozen hr 2
  have g3 := blk_frozen hr 3
  have g4 := blk_frozen hr 4
  have g5 := blk_frozen hr 5
  clear hz hp hr hb hW1
  go_region_held3 (fun w' => w'.cell? ⟨w.heap.size, 0, none⟩ = some (.int .i64 k) ∧ w'.cell? ⟨w.heap.size, 1, none⟩ = some (.string a) ∧ w'.cell? ⟨w.heap.size, 2, none⟩ = some (.string b) ∧ w'.cell? ⟨w.heap.size, 3, none⟩ = some (.float .f64 c) ∧ w'.cell? ⟨w.heap.size, 4, none⟩ = some (.int .i64 d) ∧ w'.cell? ⟨w.heap.size, 5, none⟩ = some (.slice A n m))
    (first
      | go_keep
      | exact ⟨cell_b hbe p0, cell_b hbe p1, cell_b hbe p2, cell_b hbe p3, cell_b hbe p4, cell_b hbe p5⟩
      | trace_state)
    ((go_at_call 43; refine (exists_any k a HK.out _ _ _ _ _).mono ?_; rintro e w5 ⟨rfl, hbe⟩; have x0 := cell_b hbe r0; have x1 := cell_b hbe r1; have x2 := cell_b hbe r2; have x3 := cell_b hbe r3; have x4 := cell_b hbe r4; have x5 := cell_b hbe r5; have y0 := frozen_b hbe r0 g0; have y1 := frozen_b hbe r1 g1; have y2 := frozen_b hbe r2 g2; have y3 := frozen_b hbe r3 g3; have y4 := frozen_b hbe r4 g4; have y5 := frozen_b hbe r5 g5))
  have HF := Aside0.mk (Below.trans (show Below w.heap.size w W1.drew from HB.out.drew) (show Below w.heap.size W1.drew w5 from hbe.mono (by have := HZ.out; show w.heap.size ≤ W1.heap.size; omega)))
  clear hbe
  go_wp2_with fail
  refine bodyPost_ret (v := .agg #[.int .i64 k, .string a, .string b, .float .f64 c, .int .i64 d, .bool true]) (by simp [results, Tryz.results28, go_sem, x0, x1, x2, x3, x4, x5]) rfl ?_
  refine ⟨rfl, ?_⟩
  exact (((((HF.out.setCell (by simp) _).setCell (by simp) _).setCell (by simp) _).setCell (by simp) _).setCell (by simp) _).setCell (by simp) _
end Go.Proofs.YtldfejbmdonaoaaGreatDoor.Gi
namespace Go.Proofs.YtldfejbmdonaoaaGreatDoor.An
open Go.RowKit YtldfejbmdonaoaaGreatDoorW.PrintWords YtldfejbmdonaoaaGreatDoorW.PrintLast YtldfejbmdonaoaaGreatDoorW.PrintMore Tw Tp Te At Pz Nx Gp Gv Gn Gi Ak Al Am PFnAppendParse
set_option linter.unusedVariables false
set_option linter.unusedSimpArgs false
set_option maxRecDepth 100000 in
set_option maxHeartbeats 8000000 in
theorem isarr_kind (k : Int) (hk : k ≠ 5) (a b : ByteArray) (c : Nat) (d : Int) (w : World) : Calls Tryz.prog 46 #[.agg #[.int .i64 k, .string a, .string b, .float .f64 c, .int .i64 d, .slice none 0 0]] w fun e w' => e = .returned (.bool false) ∧ Below w.heap.size w w' := by
  have d1 : (k == 5) = false := beq_eq_false_iff_ne.mpr hk
  have HB := Aside0.mk ((Below.refl w.heap.size w).alloc (Nat.le_refl _) (Obj.cells #[.int .i64 k, .string a, .string b, .float .f64 c, .int .i64 d, .slice none 0 0] 50))
  clear hk
  go_enter Tryz.func46, Tryz.ntmps46
  go_wp2
  go_ret
  exact ⟨rfl, HB.out⟩
set_option maxRecDepth 100000 in
set_option maxHeartbeats 8000000 in
theorem isarr_is (a : ByteArray) (b : ByteArray) (hb : bt a 0 = 91 ∨ bt a 0 = 123) (c : Nat) (d : Int) (w : World) : Calls Tryz.prog 46 #[.agg #[.int .i64 5, .string a, .string b, .float .f64 c, .int .i64 d, .slice none 0 0]] w fun e w' => e = .returned (.bool (bt a 0 == 91)) ∧ Below w.heap.size w w' := by
  have hz : 0 < (a.size : Int) := lt_of_bt (by omega)
  have hzn : 0 < a.size := by omega
  have hzd : decide (0 < a.size) = true := decide_eq_true hzn
  have hzi : decide ((0 : Int) < (a.size : Int)) = true := decide_eq_true hz
  have hx := Bt.bt_at0 a
  have HB := Aside0.mk ((Below.refl w.heap.size w).alloc (Nat.le_refl _) (Obj.cells #[.int .i64 5, .string a, .string b, .float .f64 c, .int .i64 d, .slice none 0 0] 50))
  rcases hb with hb | hb
  all_goals
    rw [hb] at hx ⊢
    clear hb
    go_enter Tryz.func46, Tryz.ntmps46
    go_wp2
    go_ret
    exact ⟨rfl, HB.out⟩
def one (k : Int) (a : ByteArray) : JT := .mk k a 0 ⟨#[]⟩ false [] []
theorem row_one (W : World) (B : Nat) (hB : B ≤ W.heap.size) (k : Int) (a b : ByteArray) (hk : k ≠ 0 ∨ 0 < a.size) (c : Nat) (d : Int) :
    ResRow (W.alloc (.cells #[.int .i64 k, .string a, .string b, .float .f64 c, .int .i64 d, .slice none 0 0] 50)) B (.slice (some ⟨W.heap.size, 0, none⟩) 1 1) [one k a] := by
  refine ⟨[] ++ [.int .i64 k, .string a, .string b, .float .f64 c, .int .i64 d, .slice none 0 0], .snoc (L := []) .nil ⟨b, c, d, rfl, fun _ h => absurd h (by show ¬ false = true; decide), hk⟩, rfl, .inr ⟨W.heap.size, 1, _, rfl, hB, heap_alloc_new W _, Nat.le_refl _, by decide, rfl, rfl⟩⟩
set_option maxRecDepth 100000 in
set_option maxHeartbeats 8000000 in
theorem arr_null (a b : ByteArray) (c : Nat) (d : Int) (w : World) : Calls Tryz.prog 30 #[.agg #[.int .i64 0, .string a, .string b, .float .f64 c, .int .i64 d, .slice none 0 0]] w fun e w' => ∃ av, e = .returned av ∧ ResRow w' w.heap.size av [] ∧ Below w.heap.size w w' := by
  go_enter Tryz.func30, Tryz.ntmps30
  go_wp2
  go_ret
  refine ⟨_, rfl, ⟨[], .nil, ?_⟩, below_alloc ((Below.refl _ _).alloc (Nat.le_refl _) _) _⟩
  have h := World.ownsRow_made (base := w.heap.size) (e := 50) (size := 6) (w.alloc (Obj.cells #[.int .i64 0, .string a, .string b, .float .f64 c, .int .i64 d, .slice none 0 0] 50)) #[] 0 (by simp) (by decide) (by simp)
  simpa using h
set_option maxRecDepth 100000 in
set_option maxHeartbeats 8000000 in
theorem arr_one (k : Int) (hk : k ≠ 0) (a b : ByteArray) (ha : k ≠ 5 ∨ bt a 0 = 123) (c : Nat) (d : Int) (w : World) : Calls Tryz.prog 30 #[.agg #[.int .i64 k, .string a, .string b, .float .f64 c, .int .i64 d, .slice none 0 0]] w fun e w' => ∃ av, e = .returned av ∧ ResRow w' w.heap.size av [one k a] ∧ Below w.heap.size w w' := by
  have HI := Aside0.mk (fun (W : World) => show Calls Tryz.prog 46 #[.agg #[.int .i64 k, .string a, .string b, .float .f64 c, .int .i64 d, .slice none 0 0]] W fun e w' => e = .returned (.bool false) ∧ Below W.heap.size W w' by
    by_cases h5 : k = 5
    · subst h5
      have h := isarr_is a b (.inr (ha.resolve_left fun h => h rfl)) c d W
      rw [ha.resolve_left fun h => h rfl] at h
      exact h
    · exact isarr_kind k h5 a b c d W)
  have HK := Aside0.mk hk
  have d0 : (k == 0) = false := beq_eq_false_iff_ne.mpr hk
  have hbs := fun W => build_one k a b c d none 0 0 W
  have HB := Aside0.mk ((Below.refl w.heap.size w).alloc (Nat.le_refl _) (Obj.cells #[.int .i64 k, .string a, .string b, .float .f64 c, .int .i64 d, .slice none 0 0] 50))
  have HX := Aside0.mk (heap_alloc_new w (Obj.cells #[.int .i64 k, .string a, .string b, .float .f64 c, .int .i64 d, .slice none 0 0] 50))
  clear hk ha
  go_enter Tryz.func30, Tryz.ntmps30
  go_wp2_with fail
  refine (HI.out _).mono ?_
  rintro e w1 ⟨rfl, hb⟩
  have HB1 := Aside0.mk (below_then HB.out HB.out.size hb)
  have hx := blk_below HX.out hb
  have t0 := (blk_cell hx 0).trans (rfl : _ = some (Value.int .i64 k))
  have t1 := (blk_cell hx 1).trans (rfl : _ = some (Value.string a))
  have t2 := (blk_cell hx 2).trans (rfl : _ = some (Value.string b))
  have t3 := (blk_cell hx 3).trans (rfl : _ = some (Value.float .f64 c))
  have t4 := (blk_cell hx 4).trans (rfl : _ = some (Value.int .i64 d))
  have t5 := (blk_cell hx 5).trans (rfl : _ = some (Value.slice none 0 0))
  clear hx hb
  go_wp2
  go_ret
  exact ⟨_, rfl, row_one w1 _ HB1.out.size k a b (.inl HK.out) c d, below_alloc HB1.out _⟩
set_option maxRecDepth 100000 in
set_option maxHeartbeats 8000000 in
theorem arr_list (u : ByteArray) (hs : (u.size : Int) ≤ 65536) (h0 : bt u 0 = 91) (L : List JT) (hL : TToks u 1 L) (b : ByteArray) (c : Nat) (d : Int) (w : World) (hT : Tabs w w.heap.size) (hV : ErrVars w w.heap.size) : Calls Tryz.prog 30 #[.agg #[.int .i64 5, .string u, .string b, .float .f64 c, .int .i64 d, .slice none 0 0]] w fun e w' => ∃ av, e = .returned av ∧ ResRow w' w.heap.size av L ∧ Below w.heap.size w w' := by
  have HI := Aside0.mk (fun (W : World) => show Calls Tryz.prog 46 #[.agg #[.int .i64 5, .string u, .string b, .float .f64 c, .int .i64 d, .slice none 0 0]] W fun e w' => e = .returned (.bool true) ∧ Below W.heap.size W w' by
    have h := isarr_is u b (.inl h0) c d W
    rw [h0] at h
    exact h)
  have HA := Aside0.mk (fun (W : World) (hb : Below w.heap.size w W) => array_walk u hs h0 L hL b c d W ((hT.below hb).mono hb.size) ((hV.below hb).mono hb.size))
  have HB := Aside0.mk ((Below.refl w.heap.size w).alloc (Nat.le_refl _) (Obj.cells #[.int .i64 5, .string u, .string b, .float .f64 c, .int .i64 d, .slice none 0 0] 50))
  have HX := Aside0.mk (heap_alloc_new w (Obj.cells #[.int .i64 5, .string u, .string b, .float .f64 c, .int .i64 d, .slice none 0 0] 50))
  clear hs h0 hL hT hV
  go_enter Tryz.func30, Tryz.ntmps30
  go_wp2_with fail
  refine (HI.out _).mono ?_
  rintro e w1 ⟨rfl, hb⟩
  have HB1 := Aside0.mk (below_then HB.out HB.out.size hb)
  have hx := blk_below HX.out hb
  have t0 := (blk_cell hx 0).trans (rfl : _ = some (Value.int .i64 5))
  have t1 := (blk_cell hx 1).trans (rfl : _ = some (Value.string u))
  have t2 := (blk_cell hx 2).trans (rfl : _ = some (Value.string b))
  have t3 := (blk_cell hx 3).trans (rfl : _ = some (Value.float .f64 c))
  have t4 := (blk_cell hx 4).trans (rfl : _ = some (Value.int .i64 d))
  have t5 := (blk_cell hx 5).trans (rfl : _ = some (Value.slice none 0 0))
  clear hx hb
  go_wp2_with fail
  refine (HA.out _ HB1.out).mono ?_
  rintro e w2 ⟨av, rfl, hr, hb⟩
  obtain ⟨A, cc, rfl⟩ := row_slice hr
  have HB2 := Aside0.mk (below_then HB1.out HB1.out.size hb)
  have HR := Aside0.mk (resrow_mono hr HB1.out.size)
  clear hr hb t0 t1 t2 t3 t4 t5 HA HI
  go_wp2
  go_ret
  exact ⟨_, rfl, resrow_keep HR.out fun q _ hq => Below.heap_alloc _ _ q hq, below_alloc HB2.out _⟩
end Go.Proofs.YtldfejbmdonaoaaGreatDoor.An