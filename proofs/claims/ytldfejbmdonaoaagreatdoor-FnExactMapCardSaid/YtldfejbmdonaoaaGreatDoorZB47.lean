/- Joined by a program of mine from texts of this claim: Mg. -/
import Derived.Test.YtldfejbmdonaoaaGreatDoorZB46
namespace Go.Proofs.YtldfejbmdonaoaaGreatDoor.Mg
open Go.RowKit Go.Maps YtldfejbmdonaoaaGreatDoorW.PrintWords YtldfejbmdonaoaaGreatDoorW.PrintLast YtldfejbmdonaoaaGreatDoorW.PrintMore Tw Tp Te At Pz Nx Gp Gv Gn Gi Ak Al Am Ry Mm Mp
set_option linter.unusedVariables false
set_option linter.unusedSimpArgs false
set_option maxRecDepth 100000 in
set_option maxHeartbeats 8000000 in
theorem exists_zero (b c d f : Value) (w : World) : Calls Tryz.prog 43 #[.agg #[.int .i64 0, .string ⟨#[]⟩, b, c, d, f]] w fun e w' => e = .returned (.bool false) ∧ Below w.heap.size w w' := by
  have HB := Aside0.mk ((Below.refl w.heap.size w).alloc (Nat.le_refl _) (Obj.cells #[.int .i64 0, .string ⟨#[]⟩, b, c, d, f] 50))
  go_enter Tryz.func43, Tryz.ntmps43
  go_wp2
  go_ret
  exact ⟨rfl, HB.out⟩
set_option maxRecDepth 100000 in
set_option maxHeartbeats 8000000 in
theorem value_zero (b : ByteArray) (c : Nat) (d : Int) (A : Option Addr) (n m : Nat) (w : World) : Calls Tryz.prog 28 #[.agg #[.int .i64 0, .string ⟨#[]⟩, .string b, .float .f64 c, .int .i64 d, .slice A n m]] w fun e w' => e = .returned (.agg #[.int .i64 0, .string ⟨#[]⟩, .string b, .float .f64 c, .int .i64 d, .bool false]) ∧ Below w.heap.size w w' := by
  go_enter Tryz.func28, Tryz.ntmps28
  go_wp2_with fail
  have hz : w.heap.size + 1 < ((w.alloc (.cells #[.int .i64 0, .string ⟨#[]⟩, .string b, .float .f64 c, .int .i64 d, .slice A n m] 50)).alloc (.cells #[.int .i64 0, .string ⟨#[]⟩, .string ⟨#[]⟩, .float .f64 0, .int .i64 0, .bool false] 35)).heap.size := by simp
  have hp : ((w.alloc (.cells #[.int .i64 0, .string ⟨#[]⟩, .string b, .float .f64 c, .int .i64 d, .slice A n m] 50)).alloc (.cells #[.int .i64 0, .string ⟨#[]⟩, .string ⟨#[]⟩, .float .f64 0, .int .i64 0, .bool false] 35)).heap[w.heap.size]? = some (.cells #[.int .i64 0, .string ⟨#[]⟩, .string b, .float .f64 c, .int .i64 d, .slice A n m] 50 (0, 0)) := blk_alloc (heap_alloc_new w _) _
  have hr : ((w.alloc (.cells #[.int .i64 0, .string ⟨#[]⟩, .string b, .float .f64 c, .int .i64 d, .slice A n m] 50)).alloc (.cells #[.int .i64 0, .string ⟨#[]⟩, .string ⟨#[]⟩, .float .f64 0, .int .i64 0, .bool false] 35)).heap[w.heap.size + 1]? = some (.cells #[.int .i64 0, .string ⟨#[]⟩, .string ⟨#[]⟩, .float .f64 0, .int .i64 0, .bool false] 35 (0, 0)) := by
    have := heap_alloc_new (w.alloc (.cells #[.int .i64 0, .string ⟨#[]⟩, .string b, .float .f64 c, .int .i64 d, .slice A n m] 50)) (.cells #[.int .i64 0, .string ⟨#[]⟩, .string ⟨#[]⟩, .float .f64 0, .int .i64 0, .bool false] 35)
    simpa using this
  have hb : Below w.heap.size w ((w.alloc (.cells #[.int .i64 0, .string ⟨#[]⟩, .string b, .float .f64 c, .int .i64 d, .slice A n m] 50)).alloc (.cells #[.int .i64 0, .string ⟨#[]⟩, .string ⟨#[]⟩, .float .f64 0, .int .i64 0, .bool false] 35)) := Below.alloc ((Below.refl _ _).alloc (by omega) _) (by simp) _
  obtain ⟨W1, hW1⟩ : ∃ W1, (w.alloc (.cells #[.int .i64 0, .string ⟨#[]⟩, .string b, .float .f64 c, .int .i64 d, .slice A n m] 50)).alloc (.cells #[.int .i64 0, .string ⟨#[]⟩, .string ⟨#[]⟩, .float .f64 0, .int .i64 0, .bool false] 35) = W1 := ⟨_, rfl⟩
  rw [hW1] at hz hp hr hb ⊢
  have HB := Aside0.mk hb
  have HZ := Aside0.mk hz
  have p0 := (blk_cell hp 0).trans (rfl : _ = some (Value.int .i64 0))
  have p1 := (blk_cell hp 1).trans (rfl : _ = some (Value.string ⟨#[]⟩))
  have p2 := (blk_cell hp 2).trans (rfl : _ = some (Value.string b))
  have p3 := (blk_cell hp 3).trans (rfl : _ = some (Value.float .f64 c))
  have p4 := (blk_cell hp 4).trans (rfl : _ = some (Value.int .i64 d))
  have p5 := (blk_cell hp 5).trans (rfl : _ = some (Value.slice A n m))
  have r0 := (blk_cell hr 0).trans (rfl : _ = some (Value.int .i64 0))
  have r1 := (blk_cell hr 1).trans (rfl : _ = some (Value.string ⟨#[]⟩))
  have r2 := (blk_cell hr 2).trans (rfl : _ = some (Value.string ⟨#[]⟩))
  have r3 := (blk_cell hr 3).trans (rfl : _ = some (Value.float .f64 0))
  have r4 := (blk_cell hr 4).trans (rfl : _ = some (Value.int .i64 0))
  have r5 := (blk_cell hr 5).trans (rfl : _ = some (Value.bool false))
  have g0 := blk_frozen hr 0
  have g1 := blk_frozen hr 1
  have g2 := blk_frozen hr 2
  have g3 := blk_frozen hr 3
  have g4 := blk_frozen hr 4
  have g5 := blk_frozen hr 5
  clear hz hp hr hb hW1
  go_region_held3 (fun w' => w'.cell? ⟨w.heap.size, 0, none⟩ = some (.int .i64 0) ∧ w'.cell? ⟨w.heap.size, 1, none⟩ = some (.string ⟨#[]⟩) ∧ w'.cell? ⟨w.heap.size, 2, none⟩ = some (.string b) ∧ w'.cell? ⟨w.heap.size, 3, none⟩ = some (.float .f64 c) ∧ w'.cell? ⟨w.heap.size, 4, none⟩ = some (.int .i64 d) ∧ w'.cell? ⟨w.heap.size, 5, none⟩ = some (.slice A n m))
    (first
      | go_keep
      | exact ⟨cell_b hbe p0, cell_b hbe p1, cell_b hbe p2, cell_b hbe p3, cell_b hbe p4, cell_b hbe p5⟩
      | trace_state)
    ((go_at_call 43; refine (exists_zero _ _ _ _ _).mono ?_; rintro e w5 ⟨rfl, hbe⟩; have x0 := cell_b hbe r0; have x1 := cell_b hbe r1; have x2 := cell_b hbe r2; have x3 := cell_b hbe r3; have x4 := cell_b hbe r4; have x5 := cell_b hbe r5; have y0 := frozen_b hbe r0 g0; have y1 := frozen_b hbe r1 g1; have y2 := frozen_b hbe r2 g2; have y3 := frozen_b hbe r3 g3; have y4 := frozen_b hbe r4 g4; have y5 := frozen_b hbe r5 g5))
  have HF := Aside0.mk (Below.trans (show Below w.heap.size w W1.drew from HB.out.drew) (show Below w.heap.size W1.drew w5 from hbe.mono (by have := HZ.out; show w.heap.size ≤ W1.heap.size; omega)))
  clear hbe
  go_wp2_with fail
  refine bodyPost_ret (v := .agg #[.int .i64 0, .string ⟨#[]⟩, .string b, .float .f64 c, .int .i64 d, .bool false]) (by simp [results, Tryz.results28, go_sem, x0, x1, x2, x3, x4, x5]) rfl ?_
  refine ⟨rfl, ?_⟩
  exact (((((HF.out.setCell (by simp) _).setCell (by simp) _).setCell (by simp) _).setCell (by simp) _).setCell (by simp) _).setCell (by simp) _
theorem value_gen (k : Int) (a b : ByteArray) (c : Nat) (d : Int) (w : World) : Calls Tryz.prog 28 #[.agg #[.int .i64 k, .string a, .string b, .float .f64 c, .int .i64 d, .slice none 0 0]] w fun e w' => ∃ q, e = .returned (.agg #[.int .i64 k, .string a, .string b, .float .f64 c, .int .i64 d, .bool q]) ∧ Below w.heap.size w w' := by
  by_cases h : k ≠ 0 ∨ 0 < a.size
  · refine (value_any k a h b c d none 0 0 w).mono ?_
    rintro e w' ⟨rfl, hb⟩
    exact ⟨true, rfl, hb⟩
  · have hk : k = 0 := Decidable.byContradiction fun e => h (.inl e)
    have ha : a = (⟨#[]⟩ : ByteArray) := by
      have : a.size = 0 := by
        by_cases e : a.size = 0
        · exact e
        · exact absurd (.inr (by omega)) h
      exact Bt.ext_bt (by rw [this]; rfl) (fun j hj => by omega)
    subst hk ha
    refine (value_zero b c d none 0 0 w).mono ?_
    rintro e w' ⟨rfl, hb⟩
    exact ⟨false, rfl, hb⟩
theorem _root_.Go.Proofs.YtldfejbmdonaoaaGreatDoor.Mm.Ents.at_any {ps : List (JT × JT)} {D : DataW Value} (h : Ents ps D) (kl : Lit) (z : Value) : D.atKey kl (.held z) = .held z ∨ ∃ T u, RVv T u ∧ D.atKey kl (.held z) = .held u := by
  induction h with
  | nil => exact .inl (atKey_of_not_has (D := .map []) rfl _)
  | @snoc ps D k T v h hv ih =>
    by_cases e : kl = lit k.str
    · subst e
      exact .inr ⟨T, v, hv, atKey_put_same h.tidy.isMap (show WideAt.IsKeyLit (lit k.str) from trivial) _ _⟩
    · rw [atKey_put_other e]
      exact ih
theorem look_any {w : World} {mv : Value} {ps : List (JT × JT)} (h : MapAt w mv ps) {s : ByteArray} (hs : s.size ≤ 140737488355328) :
    ∃ (k : Int) (a b : ByteArray) (c : Nat) (d : Int), (Instr.lookup 54 mv (.string s) false).run Tryz.prog w = .ok (.agg #[.int .i64 k, .string a, .string b, .float .f64 c, .int .i64 d, .slice none 0 0]) w ∧ ((keysOf ps).Nodup → ∀ (i : Nat) (hi : i < ps.length), s = ps[i].1.str → k = ps[i].2.kind ∧ a = ps[i].2.raw) := by
  rcases h with ⟨rfl, rfl⟩ | ⟨B, D, rfl, hown, hE⟩
  · exact ⟨0, _, _, _, _, Maps.look_nil false law Tryz.underlying54 (zeroE w) (key_of hs), fun _ i hi => absurd hi (Nat.not_lt_zero i)⟩
  · obtain ⟨v, qs, hrun, hv⟩ := hown.lookup law Tryz.underlying54 (zeroE w) (zd := .held (.agg #[.int .i64 0, .string ⟨#[]⟩, .string ⟨#[]⟩, .float .f64 0, .int .i64 0, .slice none 0 0])) (zp := []) rfl (key_of hs)
    have hform : ∃ (k : Int) (a b : ByteArray) (c : Nat) (d : Int), v = .agg #[.int .i64 k, .string a, .string b, .float .f64 c, .int .i64 d, .slice none 0 0] := by
      have := hE.at_any (lit s) (.agg #[.int .i64 0, .string ⟨#[]⟩, .string ⟨#[]⟩, .float .f64 0, .int .i64 0, .slice none 0 0])
      unfold RH at hv
      simp only [Option.some.injEq, Prod.mk.injEq] at hv
      rcases this with h | ⟨T, u, ⟨b, c, d, rfl, _⟩, h⟩
      · rw [h] at hv
        simp only [DataW.held.injEq] at hv
        exact ⟨_, _, _, _, _, hv.1⟩
      · rw [h] at hv
        simp only [DataW.held.injEq] at hv
        exact ⟨_, _, _, _, _, hv.1⟩
    obtain ⟨k, a, b, c, d, rfl⟩ := hform
    refine ⟨k, a, b, c, d, hrun, fun hn i hi hsi => ?_⟩
    subst hsi
    obtain ⟨u, ⟨b', c', d', rfl, _⟩, hat⟩ := hE.get hn i hi
    rw [hat] at hv
    unfold RH at hv
    simp only [Option.some.injEq, Prod.mk.injEq, DataW.held.injEq, Value.agg.injEq, Array.mk.injEq, List.cons.injEq, Value.int.injEq, Value.string.injEq] at hv
    exact ⟨hv.1.1.2, hv.1.2.1⟩
theorem len_any {w : World} {mv : Value} {ps : List (JT × JT)} (h : MapAt w mv ps) (hnd : (keysOf ps).Nodup) (ty : TypeId) : (Builtin.len_ #[54] ty #[mv]).run Tryz.prog w = .ok (.int .i64 (ps.length : Int)) w := by
  rcases h with ⟨rfl, rfl⟩ | ⟨B, D, rfl, hown, hE⟩
  · exact Maps.len_nil Tryz.underlying54 ty
  · rw [← hE.size hnd]
    exact hown.len Tryz.underlying54 ty
set_option maxRecDepth 100000 in
set_option maxHeartbeats 8000000 in
theorem mapget (s key : ByteArray) (hks : key.size ≤ 140737488355328) (R : Int → ByteArray → ByteArray → Nat → Int → Prop) (ps : List (JT × JT)) (hnd : (keysOf ps).Nodup) (w : World)
    (hP : ∀ W, Below w.heap.size w W → Calls Tryz.prog 24 #[.string s] W fun e W' => ∃ (k : Int) (x y : ByteArray) (c : Nat) (d : Int), e = .returned (.agg #[.int .i64 k, .string x, .string y, .float .f64 c, .int .i64 d, .slice none 0 0]) ∧ R k x y c d ∧ Below W.heap.size W W')
    (hM : ∀ k x y c d, R k x y c d → ∀ W, Below w.heap.size w W → Calls Tryz.prog 27 #[.agg #[.int .i64 k, .string x, .string y, .float .f64 c, .int .i64 d, .slice none 0 0]] W fun e W' => ∃ mv, e = .returned mv ∧ MapAt W' mv ps ∧ Below W.heap.size W W') :
    Calls Tryz.prog 13 #[.string s, .string key] w fun e w' => ∃ (k : Int) (a b : ByteArray) (c : Nat) (d : Int) (q : Bool), e = .returned (.tuple #[.agg #[.int .i64 k, .string a, .string b, .float .f64 c, .int .i64 d, .bool q], .int .i64 (ps.length : Int)]) ∧ (∀ (i : Nat) (hi : i < ps.length), key = ps[i].1.str → k = ps[i].2.kind ∧ a = ps[i].2.raw) ∧ Below w.heap.size w w' := by
  have HP := Aside0.mk hP
  have HM := Aside0.mk hM
  have HND := Aside0.mk hnd
  have HK := Aside0.mk hks
  clear hP hM hnd hks
  go_enter Tryz.func13, Tryz.ntmps13
  go_wp2_with fail
  have HX0 := Aside0.mk (heap_alloc_new w (.cells #[.int .i64 0, .string ⟨#[]⟩, .string ⟨#[]⟩, .float .f64 0, .int .i64 0, .bool false] 35))
  have HB0 := Aside0.mk ((Below.refl w.heap.size w).alloc (Nat.le_refl _) (.cells #[.int .i64 0, .string ⟨#[]⟩, .string ⟨#[]⟩, .float .f64 0, .int .i64 0, .bool false] 35))
  refine (HP.out _ HB0.out).mono ?_
  rintro e w1 ⟨k, x, y, c, d, rfl, hr, hb⟩
  have HR := Aside0.mk hr
  have HX1 := Aside0.mk (blk_below HX0.out hb)
  have HB1 := Aside0.mk (below_then HB0.out HB0.out.size hb)
  clear hr hb HX0
  go_wp2_with fail
  refine (HM.out k x y c d HR.out _ HB1.out).mono ?_
  rintro e w2 ⟨mv, rfl, hm, hb⟩
  obtain ⟨vk, va, vb, vc, vd, hlook, hval⟩ := look_any hm HK.out
  have HVAL := Aside0.mk hval
  have HX2 := Aside0.mk (blk_below HX1.out hb)
  have HB2 := Aside0.mk (below_then HB1.out HB1.out.size hb)
  have HMV := Aside0.mk hm
  obtain ⟨mo, hmo⟩ : ∃ mo, mv = .map mo := by
    rcases hm with ⟨h, _⟩ | ⟨B, D, h, _⟩
    · exact ⟨_, h⟩
    · exact ⟨_, h⟩
  subst hmo
  clear hval hm hb HM HP HR HX1
  go_wp2_with fail
  refine (value_gen vk va vb vc vd _).mono ?_
  rintro e w3 ⟨q, rfl, hb⟩
  have hlen := fun ty => len_any (HMV.out.keep hb) HND.out ty
  have hx := blk_below HX2.out hb
  have HB3 := Aside0.mk (below_then HB2.out HB2.out.size hb)
  have r0 := (blk_cell hx 0).trans (rfl : _ = some (Value.int .i64 0))
  have r1 := (blk_cell hx 1).trans (rfl : _ = some (Value.string ⟨#[]⟩))
  have r2 := (blk_cell hx 2).trans (rfl : _ = some (Value.string ⟨#[]⟩))
  have r3 := (blk_cell hx 3).trans (rfl : _ = some (Value.float .f64 0))
  have r4 := (blk_cell hx 4).trans (rfl : _ = some (Value.int .i64 0))
  have r5 := (blk_cell hx 5).trans (rfl : _ = some (Value.bool false))
  have g0 := blk_frozen hx 0
  have g1 := blk_frozen hx 1
  have g2 := blk_frozen hx 2
  have g3 := blk_frozen hx 3
  have g4 := blk_frozen hx 4
  have g5 := blk_frozen hx 5
  clear hb hx hlook HMV HX2
  go_wp2_with fail
  refine bodyPost_ret (v := .tuple #[.agg #[.int .i64 vk, .string va, .string vb, .float .f64 vc, .int .i64 vd, .bool q], .int .i64 (ps.length : Int)]) (by simp [results, Tryz.results13, go_sem, r0, r1, r2, r3, r4, r5]) rfl ?_
  exact ⟨vk, va, vb, vc, vd, q, rfl, HVAL.out HND.out, (((((HB3.out.setCell (by simp) _).setCell (by simp) _).setCell (by simp) _).setCell (by simp) _).setCell (by simp) _).setCell (by simp) _⟩
end Go.Proofs.YtldfejbmdonaoaaGreatDoor.Mg