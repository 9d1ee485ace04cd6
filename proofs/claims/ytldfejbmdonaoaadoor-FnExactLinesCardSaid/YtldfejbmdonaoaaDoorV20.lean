/- Joined by a program of mine from texts of this claim: Dw. -/
import Derived.Test.YtldfejbmdonaoaaDoorProg
import Derived.Test.YtldfejbmdonaoaaDoorV19
import Derived.Test.YtldfejbmdonaoaaDoorV3
import Derived.Deep.QuietTactic
import Derived.BigQuiet
import Derived.IntWalk
import Derived.WalkMore
namespace Go.Proofs.YtldfejbmdonaoaaDoor.Dw
open Go.RowKit YtldfejbmdonaoaaDoorW.PrintWords YtldfejbmdonaoaaDoorW.PrintLast YtldfejbmdonaoaaDoorW.PrintMore Dm
set_option linter.unusedVariables false
set_option linter.unusedSimpArgs false
structure Dc (w : World) (b : Nat) (f : Nat → Int) (nd dp : Int) (ng tr : Bool) : Prop where
  mk :: (cells : ∃ cs : Array Value, w.heap[b]? = some (.cells cs 128 (0, 0)) ∧ cs.size = 804 ∧ (∀ i, i < 800 → cs[i]? = some (.int .u8 (f i))) ∧ cs[800]? = some (.int .i64 nd) ∧ cs[801]? = some (.int .i64 dp) ∧ cs[802]? = some (.bool ng) ∧ cs[803]? = some (.bool tr))
def upd (f : Nat → Int) (i : Nat) (x : Int) : Nat → Int := fun j => if j = i then x else f j
theorem upd_same (f : Nat → Int) (i : Nat) (x : Int) : upd f i x i = x := if_pos rfl
theorem upd_ne (f : Nat → Int) {i j : Nat} (h : j ≠ i) (x : Int) : upd f i x j = f j := if_neg h
section
variable {w w1 : World} {b : Nat} {f : Nat → Int} {nd dp : Int} {ng tr : Bool}
theorem Dc.at (h : Dc w b f nd dp ng tr) {i : Nat} (hi : i < 800) : w.cell? ⟨b, i, none⟩ = some (.int .u8 (f i)) := by
  obtain ⟨cs, hb, hz, hd, _⟩ := h.cells
  exact (blk_cell hb i).trans (hd i hi)
theorem Dc.cnd (h : Dc w b f nd dp ng tr) : w.cell? ⟨b, 800, none⟩ = some (.int .i64 nd) := by
  obtain ⟨cs, hb, hz, hd, h0, _⟩ := h.cells
  exact (blk_cell hb _).trans h0
theorem Dc.cdp (h : Dc w b f nd dp ng tr) : w.cell? ⟨b, 801, none⟩ = some (.int .i64 dp) := by
  obtain ⟨cs, hb, hz, hd, h0, h1, _⟩ := h.cells
  exact (blk_cell hb _).trans h1
theorem Dc.cng (h : Dc w b f nd dp ng tr) : w.cell? ⟨b, 802, none⟩ = some (.bool ng) := by
  obtain ⟨cs, hb, hz, hd, h0, h1, h2, _⟩ := h.cells
  exact (blk_cell hb _).trans h2
theorem Dc.ctr (h : Dc w b f nd dp ng tr) : w.cell? ⟨b, 803, none⟩ = some (.bool tr) := by
  obtain ⟨cs, hb, hz, hd, h0, h1, h2, h3⟩ := h.cells
  exact (blk_cell hb _).trans h3
theorem Dc.fr (h : Dc w b f nd dp ng tr) (i : Nat) : w.frozen? ⟨b, i, none⟩ = false := by
  obtain ⟨cs, hb, _⟩ := h.cells
  exact blk_frozen hb i
theorem Dc.lt (h : Dc w b f nd dp ng tr) : b < w.heap.size := by
  obtain ⟨cs, hb, _⟩ := h.cells
  exact blk_lt hb
theorem Dc.put (h : Dc w b f nd dp ng tr) {i : Nat} (hi : i < 800) (x : Int) : Dc (w.setCell ⟨b, i, none⟩ (.int .u8 x)) b (upd f i x) nd dp ng tr := by
  obtain ⟨cs, hb, hz, hd, h0, h1, h2, h3⟩ := h.cells
  refine ⟨_, blk_set hb i _, by simpa using hz, fun j hj => ?_, ?_, ?_, ?_, ?_⟩
  · by_cases e : j = i
    · subst e
      rw [upd_same, Array.getElem?_setIfInBounds_self_of_lt (by omega)]
    · rw [upd_ne f e, Array.getElem?_setIfInBounds_ne (Ne.symm e)]
      exact hd j hj
  all_goals rw [Array.getElem?_setIfInBounds_ne (by omega)]; assumption
theorem Dc.putNd (h : Dc w b f nd dp ng tr) (x : Int) : Dc (w.setCell ⟨b, 800, none⟩ (.int .i64 x)) b f x dp ng tr := by
  obtain ⟨cs, hb, hz, hd, h0, h1, h2, h3⟩ := h.cells
  refine ⟨_, blk_set hb _ _, by simpa using hz, fun j hj => ?_, Array.getElem?_setIfInBounds_self_of_lt (by omega), ?_, ?_, ?_⟩
  · rw [Array.getElem?_setIfInBounds_ne (by omega)]; exact hd j hj
  all_goals rw [Array.getElem?_setIfInBounds_ne (by omega)]; assumption
theorem Dc.putDp (h : Dc w b f nd dp ng tr) (x : Int) : Dc (w.setCell ⟨b, 801, none⟩ (.int .i64 x)) b f nd x ng tr := by
  obtain ⟨cs, hb, hz, hd, h0, h1, h2, h3⟩ := h.cells
  refine ⟨_, blk_set hb _ _, by simpa using hz, fun j hj => ?_, ?_, Array.getElem?_setIfInBounds_self_of_lt (by omega), ?_, ?_⟩
  · rw [Array.getElem?_setIfInBounds_ne (by omega)]; exact hd j hj
  all_goals rw [Array.getElem?_setIfInBounds_ne (by omega)]; assumption
theorem Dc.putNg (h : Dc w b f nd dp ng tr) (x : Bool) : Dc (w.setCell ⟨b, 802, none⟩ (.bool x)) b f nd dp x tr := by
  obtain ⟨cs, hb, hz, hd, h0, h1, h2, h3⟩ := h.cells
  refine ⟨_, blk_set hb _ _, by simpa using hz, fun j hj => ?_, ?_, ?_, Array.getElem?_setIfInBounds_self_of_lt (by omega), ?_⟩
  · rw [Array.getElem?_setIfInBounds_ne (by omega)]; exact hd j hj
  all_goals rw [Array.getElem?_setIfInBounds_ne (by omega)]; assumption
theorem Dc.putTr (h : Dc w b f nd dp ng tr) (x : Bool) : Dc (w.setCell ⟨b, 803, none⟩ (.bool x)) b f nd dp ng x := by
  obtain ⟨cs, hb, hz, hd, h0, h1, h2, h3⟩ := h.cells
  refine ⟨_, blk_set hb _ _, by simpa using hz, fun j hj => ?_, ?_, ?_, ?_, Array.getElem?_setIfInBounds_self_of_lt (by omega)⟩
  · rw [Array.getElem?_setIfInBounds_ne (by omega)]; exact hd j hj
  all_goals rw [Array.getElem?_setIfInBounds_ne (by omega)]; assumption
theorem Dc.same (h : Dc w b f nd dp ng tr) (e : w1.heap[b]? = w.heap[b]?) : Dc w1 b f nd dp ng tr := by
  obtain ⟨cs, hb, r⟩ := h.cells
  exact ⟨⟨cs, e.trans hb, r⟩⟩
theorem Dc.drewN (h : Dc w b f nd dp ng tr) (n : Nat) : Dc (w.drewN n) b f nd dp ng tr := h.same rfl
theorem Dc.drew (h : Dc w b f nd dp ng tr) : Dc w.drew b f nd dp ng tr := h.same rfl
end
structure Trimmed (w0 w' : World) (b : Nat) (f : Nat → Int) (nd dp : Int) (ng tr : Bool) : Prop where
  mk :: (out : ∃ nd' dp', Dc w' b f nd' dp' ng tr ∧ 0 ≤ nd' ∧ nd' ≤ nd ∧ (1 ≤ nd → f 0 ≠ 48 → 1 ≤ nd' ∧ dp' = dp) ∧ Below b w0 w')
set_option maxRecDepth 100000 in
set_option maxHeartbeats 4000000 in
theorem trim_walk (w : World) (b : Nat) (f : Nat → Int) (nd dp : Int) (ng tr : Bool) (h : Dc w b f nd dp ng tr) (h0 : 0 ≤ nd) (h1 : nd ≤ 800) :
    Calls Tryd.prog 110 #[.pointer (some ⟨b, 0, none⟩)] w fun e w' => e = .returned (.tuple #[]) ∧ Trimmed w w' b f nd dp ng tr := by
  have HD0 := Aside0.mk h
  have HN0 := Aside0.mk (And.intro h0 h1)
  clear h h0 h1
  go_enter Tryd.func110, Tryd.ntmps110
  go_wp2
  go_loopg [] 801 (fun kq wr => ∃ n : Int, Aside0 (Dc wr b f n dp ng tr ∧ 0 ≤ n ∧ n ≤ nd ∧ n < kq ∧ (1 ≤ nd → f 0 ≠ 48 → 1 ≤ n) ∧ Below b w wr))
  case atStart => exact ⟨nd, ⟨HD0.out, HN0.out.1, Int.le_refl _, by have := HN0.out; omega, fun h _ => h, Below.refl _ _⟩⟩
  case round =>
    obtain ⟨n, HR⟩ := hrel
    have c0 := HR.out.1.cnd
    have c1 := HR.out.1.cdp
    have f0 := HR.out.1.fr 800
    have f1 := HR.out.1.fr 801
    by_cases hz : n = 0
    · have d1 : decide (n > 0) = false := decide_eq_false (by omega)
      have d2 : (n == 0) = true := beq_iff_eq.mpr hz
      have HZ := Aside0.mk hz
      clear hz
      go_wp2
      repeat (go_quiet (fail); try go_wp2)
      first | go_end0 | ((try simp only [Exit.inBlock, Exit.then]); refine bodyPost_ret (results_none rfl _ _ _) rfl ?_)
      refine ⟨rfl, ⟨n, 0, ((HR.out.1.drewN _).putDp 0), HR.out.2.1, HR.out.2.2.1, fun h1 h2 => ?_, ?_⟩⟩
      · have := HR.out.2.2.2.2.1 h1 h2; have := HZ.out; omega
      · exact (pw_below_drewN HR.out.2.2.2.2.2 _).setCell (by simp) _
    · have p1 : 1 ≤ n := by have := HR.out; omega
      have p2 : n ≤ 800 := by have := HR.out; have := HN0.out; omega
      have d1 : decide (n > 0) = true := decide_eq_true (by omega)
      have d2 : (n == 0) = false := beq_eq_false_iff_ne.mpr hz
      have c3 := HR.out.1.at (i := n.toNat - 1) (by omega)
      have f3 := HR.out.1.fr (n.toNat - 1)
      clear hz
      by_cases hc : f (n.toNat - 1) = 48
      · have d3 : (f (n.toNat - 1) == 48) = true := beq_iff_eq.mpr hc
        have HC := Aside0.mk hc
        clear hc
        go_wp2
        repeat (go_quiet (fail); try go_wp2)
        go_roundg (gk - 1)
        case measure => have := HR.out; omega
        case rel =>
          refine ⟨n - 1, ⟨(HR.out.1.drewN _).putNd _, by omega, by have := HR.out; omega, by have := HR.out; omega, fun h1 h2 => ?_, (pw_below_drewN HR.out.2.2.2.2.2 _).setCell (by simp) _⟩⟩
          rcases Int.lt_or_le 1 n with h | h
          · omega
          · obtain rfl : n = 1 := by omega
            exact absurd HC.out h2
      · have d3 : (f (n.toNat - 1) == 48) = false := beq_eq_false_iff_ne.mpr hc
        clear hc
        go_wp2
        repeat (go_quiet (fail); try go_wp2)
        first | go_end0 | ((try simp only [Exit.inBlock, Exit.then]); refine bodyPost_ret (results_none rfl _ _ _) rfl ?_)
        exact ⟨rfl, ⟨n, dp, HR.out.1.drewN _, by omega, HR.out.2.2.1, fun h1 h2 => ⟨by omega, rfl⟩, pw_below_drewN HR.out.2.2.2.2.2 _⟩⟩
end Go.Proofs.YtldfejbmdonaoaaDoor.Dw