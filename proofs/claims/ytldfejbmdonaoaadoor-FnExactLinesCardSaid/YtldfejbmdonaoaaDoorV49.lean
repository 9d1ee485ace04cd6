/- Joined by a program of mine from texts of this claim: Li. -/
import Derived.Test.YtldfejbmdonaoaaDoorV48
import Derived.Deep.QuietTactic
import Derived.BigQuiet
namespace Go.Proofs.YtldfejbmdonaoaaDoor.Li
open Go.RowKit YtldfejbmdonaoaaDoorW.PrintWords YtldfejbmdonaoaaDoorW.PrintLast YtldfejbmdonaoaaDoorW.PrintMore Tw Tp Te At Pz Gp Gv Gn Ry Sn Lq Lv La Lc Le
set_option linter.unusedVariables false
set_option linter.unusedSimpArgs false
set_option maxRecDepth 100000 in
set_option maxHeartbeats 8000000 in
theorem lines_law (a b : ByteArray) (w : World) (ha : a.size ≤ 140737488351232) (hb : b.size ≤ 140737488351232) (hT : VTab w) (hA : Tabs w w.heap.size) (hE : ErrVars w w.heap.size) :
    Calls Tryd.prog 6 #[.string a, .string b] w fun e w' => e = .returned (.bool true) ∧ Below w.heap.size w w' := by
  by_cases c1 : (2147483647 : Int) < (a.size : Int)
  · have d1 : decide ((2147483647 : Int) < (a.size : Int)) = true := decide_eq_true c1
    clear hT hA hE
    go_enter Tryd.func6, Tryd.ntmps6
    go_wp2_with fail
    go_ret
    exact ⟨rfl, Below.refl _ _⟩
  have d1 : decide ((2147483647 : Int) < (a.size : Int)) = false := decide_eq_false c1
  by_cases c2 : (2147483647 : Int) < (b.size : Int)
  · have d2 : decide ((2147483647 : Int) < (b.size : Int)) = true := decide_eq_true c2
    clear hT hA hE
    go_enter Tryd.func6, Tryd.ntmps6
    go_wp2_with fail
    go_ret
    exact ⟨rfl, Below.refl _ _⟩
  have d2 : decide ((2147483647 : Int) < (b.size : Int)) = false := decide_eq_false c2
  have HTV := Aside0.mk (fun (W : World) (hb : Below w.heap.size w W) => (⟨VTab.below hT hb, (hA.below hb).mono hb.size, (hE.below hb).mono hb.size⟩ : VTab W ∧ Tabs W W.heap.size ∧ ErrVars W W.heap.size))
  clear hT hA hE
  go_enter Tryd.func6, Tryd.ntmps6
  go_wp2_with fail
  refine (read_told a _).mono ?_
  rintro e w1 ⟨T, ok, A5x, n5x, c5x, A6x, n6x, c6x, rfl, _, hok, hb1⟩
  have HOK := Aside0.mk hok
  have HB1 := Aside0.mk (below_alloc hb1 (.cells #[.int .i64 T.kind, .string T.raw, .int .i64 T.place, .string T.str, .bool T.pairs, .slice A5x n5x c5x, .slice A6x n6x c6x] 25))
  have HX1 := Aside0.mk (heap_alloc_new w1 (.cells #[.int .i64 T.kind, .string T.raw, .int .i64 T.place, .string T.str, .bool T.pairs, .slice A5x n5x c5x, .slice A6x n6x c6x] 25))
  have hz1 : w.heap.size ≤ w1.heap.size := hb1.size
  have HZ1 := Aside0.mk hz1
  clear hok hb1 hz1
  go_wp2_with fail
  refine (read_told b _).mono ?_
  rintro e w2 ⟨S, is, A5y, n5y, c5y, A6y, n6y, c6y, rfl, _, hok, hb2⟩
  have HIS := Aside0.mk hok
  have HX2 := Aside0.mk (blk_below HX1.out hb2)
  have HB2 := Aside0.mk (below_alloc (below_then HB1.out HB1.out.size hb2) (.cells #[.int .i64 S.kind, .string S.raw, .int .i64 S.place, .string S.str, .bool S.pairs, .slice A5y n5y c5y, .slice A6y n6y c6y] 25))
  have HX3 := Aside0.mk (blk_alloc HX2.out (.cells #[.int .i64 S.kind, .string S.raw, .int .i64 S.place, .string S.str, .bool S.pairs, .slice A5y n5y c5y, .slice A6y n6y c6y] 25))
  have HY3 := Aside0.mk (heap_alloc_new w2 (.cells #[.int .i64 S.kind, .string S.raw, .int .i64 S.place, .string S.str, .bool S.pairs, .slice A5y n5y c5y, .slice A6y n6y c6y] 25))
  clear hok hb2
  cases ok with
  | false =>
    go_wp2_with fail
    go_ret
    exact ⟨rfl, HB2.out⟩
  | true =>
  cases is with
  | false =>
    go_wp2_with fail
    go_ret
    exact ⟨rfl, HB2.out⟩
  | true =>
  obtain ⟨j, hj⟩ := HOK.out rfl
  obtain ⟨k, hk⟩ := HIS.out rfl
  have sa := hj.size
  have sb := hk.size
  have hu : ((lines a b).size : Int) ≤ 200000 := by rw [lines_size]; omega
  have HLW := Aside0.mk (fun W hT hA hE => lines_walk (lines a b) [T.raw, S.raw] hu (by simp) (vals_lines hj hk) W hT hA hE)
  clear hj hk hu HOK HIS
  go_wp2_with fail
  clear sa sb c1 c2 d1 d2 ha hb
  have hT3 := HTV.out _ HB2.out
  refine (HLW.out _ hT3.1 hT3.2.1 hT3.2.2).mono ?_
  rintro e w3 ⟨v, rfl, hown, hb3⟩
  obtain ⟨g, cap, rfl⟩ : ∃ g cap, v = .slice (some ⟨g, 0, none⟩) 2 cap := by
    rcases hown.2 with ⟨_, h⟩ | ⟨g, cap, cur, hv, _⟩
    · exact absurd h (by simp)
    · exact ⟨g, cap, hv⟩
  have r0 := (hown.cellAt 0 (by decide)).trans (rfl : _ = some (Value.string T.raw))
  have r1 := (hown.cellAt 1 (by decide)).trans (rfl : _ = some (Value.string S.raw))
  have x1 := (blk_cell (blk_below HX3.out hb3) 1).trans (rfl : _ = some (Value.string T.raw))
  have y1 := (blk_cell (blk_below HY3.out hb3) 1).trans (rfl : _ = some (Value.string S.raw))
  have HB3 := Aside0.mk (below_then HB2.out HB2.out.size hb3)
  obtain ⟨q1, hq1⟩ : ∃ q, w1.heap.size = q := ⟨_, rfl⟩
  obtain ⟨q2, hq2⟩ : ∃ q, w2.heap.size = q := ⟨_, rfl⟩
  rw [hq1] at x1
  rw [hq2] at y1
  rw [hq1, hq2]
  clear hown hb3 hT3 HX3 HY3 HX2 HX1 HB2 HB1 HLW HTV HZ1 hq1 hq2
  go_wp2_with fail
  go_quiet (fail)
  go_wp2
  go_ret
  exact ⟨rfl, pw_below_drewN HB3.out _⟩
end Go.Proofs.YtldfejbmdonaoaaDoor.Li