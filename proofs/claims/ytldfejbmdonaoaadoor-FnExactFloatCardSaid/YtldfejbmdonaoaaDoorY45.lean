/- Joined by a program of mine from texts of this claim: Gi. -/
import Derived.Test.YtldfejbmdonaoaaDoorY44
namespace Go.Proofs.YtldfejbmdonaoaaDoor.Gi
open Go.RowKit YtldfejbmdonaoaaDoorW.PrintWords YtldfejbmdonaoaaDoorW.PrintLast YtldfejbmdonaoaaDoorW.PrintMore Tp Te Gp Gv At Pz Nx Gn
set_option linter.unusedVariables false
set_option linter.unusedSimpArgs false
set_option maxRecDepth 100000 in
set_option maxHeartbeats 8000000 in
theorem value_any (k : Int) (a : ByteArray) (hk : k ≠ 0 ∨ 0 < a.size) (b : ByteArray) (c : Nat) (d : Int) (A : Option Addr) (n m : Nat) (w : World) : Calls Tryd.prog 18 #[.agg #[.int .i64 k, .string a, .string b, .float .f64 c, .int .i64 d, .slice A n m]] w fun e w' => e = .returned (.agg #[.int .i64 k, .string a, .string b, .float .f64 c, .int .i64 d, .bool true]) ∧ Below w.heap.size w w' := by
  have HK := Aside0.mk hk
  clear hk
  go_enter Tryd.func18, Tryd.ntmps18
  go_wp2_with fail
  have hz : w.heap.size + 1 < ((w.alloc (.cells #[.int .i64 k, .string a, .string b, .float .f64 c, .int .i64 d, .slice A n m] 51)).alloc (.cells #[.int .i64 0, .string ⟨#[]⟩, .string ⟨#[]⟩, .float .f64 0, .int .i64 0, .bool false] 30)).heap.size := by simp
  have hp : ((w.alloc (.cells #[.int .i64 k, .string a, .string b, .float .f64 c, .int .i64 d, .slice A n m] 51)).alloc (.cells #[.int .i64 0, .string ⟨#[]⟩, .string ⟨#[]⟩, .float .f64 0, .int .i64 0, .bool false] 30)).heap[w.heap.size]? = some (.cells #[.int .i64 k, .string a, .string b, .float .f64 c, .int .i64 d, .slice A n m] 51 (0, 0)) := blk_alloc (heap_alloc_new w _) _
  have hr : ((w.alloc (.cells #[.int .i64 k, .string a, .string b, .float .f64 c, .int .i64 d, .slice A n m] 51)).alloc (.cells #[.int .i64 0, .string ⟨#[]⟩, .string ⟨#[]⟩, .float .f64 0, .int .i64 0, .bool false] 30)).heap[w.heap.size + 1]? = some (.cells #[.int .i64 0, .string ⟨#[]⟩, .string ⟨#[]⟩, .float .f64 0, .int .i64 0, .bool false] 30 (0, 0)) := by
    have := heap_alloc_new (w.alloc (.cells #[.int .i64 k, .string a, .string b, .float .f64 c, .int .i64 d, .slice A n m] 51)) (.cells #[.int .i64 0, .string ⟨#[]⟩, .string ⟨#[]⟩, .float .f64 0, .int .i64 0, .bool false] 30)
    simpa using this
  have hb : Below w.heap.size w ((w.alloc (.cells #[.int .i64 k, .string a, .string b, .float .f64 c, .int .i64 d, .slice A n m] 51)).alloc (.cells #[.int .i64 0, .string ⟨#[]⟩, .string ⟨#[]⟩, .float .f64 0, .int .i64 0, .bool false] 30)) := Below.alloc ((Below.refl _ _).alloc (by omega) _) (by simp) _
  obtain ⟨W1, hW1⟩ : ∃ W1, (w.alloc (.cells #[.int .i64 k, .string a, .string b, .float .f64 c, .int .i64 d, .slice A n m] 51)).alloc (.cells #[.int .i64 0, .string ⟨#[]⟩, .string ⟨#[]⟩, .float .f64 0, .int .i64 0, .bool false] 30) = W1 := ⟨_, rfl⟩
  rw [hW1] at hz hp hr hb ⊢
  have HB := Aside0.mk hb
  have HZ := Aside0.mk hz
  have p0 := (blk_cell hp 0).trans (rfl : _ = some (Value.int .i64 k))
  have p1 := (blk_cell hp 1).trans (rfl : _ = some (Value.string a))
  have p2 := (blk_cell hp 2).trans (rfl : _ = some (Value.string b))
  have p3 := (blk_cell hp 3).trans (rfl : _ = some (Value.float .f64 c))
  have p4 := (blk_cell hp 4).trans (rfl : _ = some (Value.int .i64 d))
  have p5 := (blk_cell hp 5).trans (rfl : _ = some (Value.slice A n m))
  have r0 := (blk_cell hr 0).trans (rfl : _ = some (Value.int .i64 0))
  have r1 := (blk_cell hr 1).trans (rfl : _ = some (Value.string ⟨#[]⟩))
  have r2 := (blk_cell hr 2).trans (rfl : _ = some (Value.string ⟨#[]⟩))
  have r3 := (blk_cell hr 3).trans (rfl : _ = some (Value.float .f64 0))
  have r4 := (blk_cell hr 4).trans (rfl : _ = some (Value.int .i64 0))
  have r5 := (blk_cell hr 5).trans (rfl : _ = some (Value.bool false))
  have g0 := blk_frozen hr 0
  have g1 := blk_frozen hr 1
  have g2 := blk_frozen hr 2
  have g3 := blk_frozen hr 3
  have g4 := blk_frozen hr 4
  have g5 := blk_frozen hr 5
  clear hz hp hr hb hW1
  go_region_held3 (fun w' => w'.cell? ⟨w.heap.size, 0, none⟩ = some (.int .i64 k) ∧ w'.cell? ⟨w.heap.size, 1, none⟩ = some (.string a) ∧ w'.cell? ⟨w.heap.size, 2, none⟩ = some (.string b) ∧ w'.cell? ⟨w.heap.size, 3, none⟩ = some (.float .f64 c) ∧ w'.cell? ⟨w.heap.size, 4, none⟩ = some (.int .i64 d) ∧ w'.cell? ⟨w.heap.size, 5, none⟩ = some (.slice A n m))
    (first
      | go_keep
      | exact ⟨cell_b hbe p0, cell_b hbe p1, cell_b hbe p2, cell_b hbe p3, cell_b hbe p4, cell_b hbe p5⟩
      | trace_state)
    ((go_at_call 30; refine (exists_any k a HK.out _ _ _ _ _).mono ?_; rintro e w5 ⟨rfl, hbe⟩; have x0 := cell_b hbe r0; have x1 := cell_b hbe r1; have x2 := cell_b hbe r2; have x3 := cell_b hbe r3; have x4 := cell_b hbe r4; have x5 := cell_b hbe r5; have y0 := frozen_b hbe r0 g0; have y1 := frozen_b hbe r1 g1; have y2 := frozen_b hbe r2 g2; have y3 := frozen_b hbe r3 g3; have y4 := frozen_b hbe r4 g4; have y5 := frozen_b hbe r5 g5))
  have HF := Aside0.mk (Below.trans (show Below w.heap.size w W1.drew from HB.out.drew) (show Below w.heap.size W1.drew w5 from hbe.mono (by have := HZ.out; show w.heap.size ≤ W1.heap.size; omega)))
  clear hbe
  go_wp2_with fail
  refine bodyPost_ret (v := .agg #[.int .i64 k, .string a, .string b, .float .f64 c, .int .i64 d, .bool true]) (by simp [results, Tryd.results18, go_sem, x0, x1, x2, x3, x4, x5]) rfl ?_
  refine ⟨rfl, ?_⟩
  exact (((((HF.out.setCell (by simp) _).setCell (by simp) _).setCell (by simp) _).setCell (by simp) _).setCell (by simp) _).setCell (by simp) _
set_option maxRecDepth 100000 in
set_option maxHeartbeats 8000000 in
theorem impl_any (u : ByteArray) (R : Int → ByteArray → ByteArray → Nat → Int → Prop) (w : World)
    (h : ∀ W, Below w.heap.size w W → Calls Tryd.prog 19 #[.string u] W fun e w' => ∃ (k : Int) (a b : ByteArray) (c : Nat) (d : Int) (A : Option Addr) (n m : Nat), e = .returned (.agg #[.int .i64 k, .string a, .string b, .float .f64 c, .int .i64 d, .slice A n m]) ∧ ((k ≠ 0 ∨ 0 < a.size) ∧ R k a b c d) ∧ Below W.heap.size W w') :
    Calls Tryd.prog 8 #[.string u] w fun e w' => ∃ (k : Int) (a b : ByteArray) (c : Nat) (d : Int), e = .returned (.agg #[.int .i64 k, .string a, .string b, .float .f64 c, .int .i64 d, .bool true]) ∧ R k a b c d ∧ Below w.heap.size w w' := by
  have H := Aside0.mk h
  clear h
  go_enter Tryd.func8, Tryd.ntmps8
  go_wp2_with fail
  have hr : (w.alloc (.cells #[.int .i64 0, .string ⟨#[]⟩, .string ⟨#[]⟩, .float .f64 0, .int .i64 0, .bool false] 30)).heap[w.heap.size]? = some (.cells #[.int .i64 0, .string ⟨#[]⟩, .string ⟨#[]⟩, .float .f64 0, .int .i64 0, .bool false] 30 (0, 0)) := heap_alloc_new w _
  have hb0 : Below w.heap.size w (w.alloc (.cells #[.int .i64 0, .string ⟨#[]⟩, .string ⟨#[]⟩, .float .f64 0, .int .i64 0, .bool false] 30)) := (Below.refl _ _).alloc (by omega) _
  obtain ⟨W1, hW1⟩ : ∃ W1, w.alloc (.cells #[.int .i64 0, .string ⟨#[]⟩, .string ⟨#[]⟩, .float .f64 0, .int .i64 0, .bool false] 30) = W1 := ⟨_, rfl⟩
  rw [hW1] at hr hb0 ⊢
  have HR0 := Aside0.mk hr
  have HB0 := Aside0.mk hb0
  clear hr hb0 hW1
  refine (H.out _ HB0.out).mono ?_
  rintro e w1 ⟨k, a, b, c, d, A, n, m, rfl, hR, hb⟩
  have HR := Aside0.mk hR
  have HR1 := Aside0.mk (blk_below HR0.out hb)
  have HB := Aside0.mk (below_then HB0.out HB0.out.size hb)
  clear hR hb H
  go_wp2_with fail
  refine (value_any k a HR.out.1 b c d A n m _).mono ?_
  rintro e w2 ⟨rfl, hb⟩
  have hr := blk_below HR1.out hb
  have HB2 := Aside0.mk (below_then HB.out HB.out.size hb)
  have r0 := (blk_cell hr 0).trans (rfl : _ = some (Value.int .i64 0))
  have r1 := (blk_cell hr 1).trans (rfl : _ = some (Value.string ⟨#[]⟩))
  have r2 := (blk_cell hr 2).trans (rfl : _ = some (Value.string ⟨#[]⟩))
  have r3 := (blk_cell hr 3).trans (rfl : _ = some (Value.float .f64 0))
  have r4 := (blk_cell hr 4).trans (rfl : _ = some (Value.int .i64 0))
  have r5 := (blk_cell hr 5).trans (rfl : _ = some (Value.bool false))
  have g0 := blk_frozen hr 0
  have g1 := blk_frozen hr 1
  have g2 := blk_frozen hr 2
  have g3 := blk_frozen hr 3
  have g4 := blk_frozen hr 4
  have g5 := blk_frozen hr 5
  clear hb hr
  go_wp2_with fail
  refine bodyPost_ret (v := .agg #[.int .i64 k, .string a, .string b, .float .f64 c, .int .i64 d, .bool true]) (by simp [results, Tryd.results8, go_sem, r0, r1, r2, r3, r4, r5]) rfl ?_
  exact ⟨k, a, b, c, d, rfl, HR.out.2, (((((HB2.out.setCell (by simp) _).setCell (by simp) _).setCell (by simp) _).setCell (by simp) _).setCell (by simp) _).setCell (by simp) _⟩
theorem impl_other (u : ByteArray) (i0 K n : Int) (hL : Lead u i0) (hH : Shape u i0 K n) (w : World) (hT : Tabs w w.heap.size) (hV : ErrVars w w.heap.size) :
    Calls Tryd.prog 8 #[.string u] w fun e w' => ∃ (k : Int) (a b : ByteArray) (c : Nat) (d : Int), e = .returned (.agg #[.int .i64 k, .string a, .string b, .float .f64 c, .int .i64 d, .bool true]) ∧ (k = K ∧ a = u.extract i0.toNat n.toNat ∧ d = i0 ∧ (K = 2 → ExactX (u.extract i0.toNat n.toNat) c)) ∧ Below w.heap.size w w' := by
  refine impl_any u (fun k a b c d => k = K ∧ a = u.extract i0.toNat n.toNat ∧ d = i0 ∧ (K = 2 → ExactX (u.extract i0.toNat n.toNat) c)) w fun W hW => ?_
  refine (parse_other u i0 K n hL hH W ((hT.below hW).mono hW.size) ((hV.below hW).mono hW.size)).mono ?_
  rintro e w1 ⟨x, rfl, hex, hb⟩
  exact ⟨K, _, ⟨#[]⟩, x, i0, none, 0, 0, rfl, ⟨.inr (by rw [ByteArray.size_extract]; have := hH.le hL; have := hL.lo; omega), rfl, rfl, rfl, hex⟩, hb⟩
end Go.Proofs.YtldfejbmdonaoaaDoor.Gi