/- Joined by a program of mine from texts of this claim: Tr. -/
import Derived.Test.YtldfejbmdonaoaaDoorV36
import Derived.RegionTactic
import Derived.BigRegion
namespace Go.Proofs.YtldfejbmdonaoaaDoor.Tr
open Go.RowKit YtldfejbmdonaoaaDoorW.PrintWords YtldfejbmdonaoaaDoorW.PrintLast YtldfejbmdonaoaaDoorW.PrintMore Tw Tf Tl Tt Sp
set_option linter.unusedVariables false
set_option linter.unusedSimpArgs false
def readF (k : Nat) (s : ByteArray) : Option (JT × Bool) :=
  (spec_reading_blank.f k s 0 false).bind fun q => (treeF k q.1 q.2.1 q.2.2).bind fun t => (spec_reading_blank.f k t.2.1 t.2.2.1 t.2.2.2).bind fun q2 =>
    some (t.1, !q2.2.2 && q2.2.1 == (s.size : Int))
def ReadPost (w : World) (T : JT) (ok : Bool) (e : Ending) (w' : World) : Prop :=
  ∃ kv iv, e = .returned (.tuple #[.agg #[.int .i64 T.kind, .string T.raw, .int .i64 T.place, .string T.str, .bool T.pairs, kv, iv], .bool ok]) ∧ TreeAt w' (fun q => w.heap.size ≤ q) (cells7 T.kind T.raw T.place T.str T.pairs kv iv) T ∧ Below w.heap.size w w'
structure RB (w wr : World) (g rb : Nat) (s : ByteArray) (i : Int) (b : Bool) : Prop where
  st : IsS45 w wr g s i b
  below : Below w.heap.size w wr
  res : wr.heap[rb]? = some (.cells #[.int .i64 0, .string ⟨#[]⟩, .int .i64 0, .string ⟨#[]⟩, .bool false, .slice none 0 0, .slice none 0 0] 25 (0, 0))
theorem RB.step {w wr w1 : World} {g rb : Nat} {s s1 : ByteArray} {i i1 : Int} {b b1 : Bool} (h : RB w wr g rb s i b) (hn : ¬ rb = g)
    (hi : IsS45 w w1 g s1 i1 b1) (hb : Below w.heap.size w w1) (hk : KeepBut wr w1 g none) : RB w w1 g rb s1 i1 b1 :=
  ⟨hi, hb, by rw [hk.2 rb (blk_lt h.res) hn (by simp)]; exact h.res⟩
theorem RB.done {w wr w6 : World} {g rb : Nat} {s : ByteArray} {i : Int} {b ok : Bool} {T : JT} {kv iv : Value} (h : RB w wr g rb s i b) (hr : rb = w.heap.size) (hg : g = w.heap.size + 1)
    (hT : TreeAt wr (fun q => g < q) (cells7 T.kind T.raw T.place T.str T.pairs kv iv) T) (hb : Below 0 wr w6) (hk : ∀ q, q ≠ rb → w6.heap[q]? = wr.heap[q]?) :
    ReadPost w T ok (.returned (.tuple #[.agg #[.int .i64 T.kind, .string T.raw, .int .i64 T.place, .string T.str, .bool T.pairs, kv, iv], .bool ok])) w6 := by
  refine ⟨kv, iv, rfl, hT.move (fun q hq _ => ⟨by omega, hk q (by omega)⟩), ?_⟩
  exact ⟨hb.os.trans h.below.os, hb.tape.trans h.below.tape, hb.output.trans h.below.output, Nat.le_trans h.below.size hb.size, fun q hq => (hk q (by omega)).trans (h.below.block q hq)⟩
set_option maxRecDepth 100000 in
set_option maxHeartbeats 8000000 in
theorem read_any (k : Nat) (s : ByteArray) (T : JT) (ok : Bool) (w : World) (hs : s.size ≤ 65536) (h : readF k s = some (T, ok)) :
    Calls Tryd.prog 7 #[.string s] w (ReadPost w T ok) := by
  unfold readF at h
  replace h := Option.bind_eq_some_iff.mp h
  obtain ⟨⟨s1, i1, b1⟩, hq1, h⟩ := h
  replace h := Option.bind_eq_some_iff.mp h
  obtain ⟨⟨T', s2, i2, b2⟩, hq2, h⟩ := h
  replace h := Option.bind_eq_some_iff.mp h
  obtain ⟨⟨s3, i3, b3⟩, hq3, h⟩ := h
  simp only [Option.some.injEq, Prod.mk.injEq] at h
  obtain ⟨rfl, rfl⟩ := h
  have HQ1 := Aside0.mk hq1
  have HQ2 := Aside0.mk hq2
  have HQ3 := Aside0.mk hq3
  have h1 : ¬ (65536 : Int) < (s.size : Int) := by omega
  clear hq1 hq2 hq3 hs
  go_enter Tryd.func7, Tryd.ntmps7
  go_wp2_with fail
  obtain ⟨W2, hW2⟩ : ∃ W2, (w.alloc (.cells #[.int .i64 0, .string ⟨#[]⟩, .int .i64 0, .string ⟨#[]⟩, .bool false, .slice none 0 0, .slice none 0 0] 25)).alloc (.cells #[.string s, .int .i64 0, .bool false] 45) = W2 := ⟨_, rfl⟩
  rw [hW2]
  obtain ⟨rb, hrb⟩ : ∃ rb, w.heap.size = rb := ⟨_, rfl⟩
  obtain ⟨g, hg⟩ : ∃ g, rb + 1 = g := ⟨_, rfl⟩
  have HX0 : Aside0 (RB w W2 g rb s 0 false) := ⟨by
    rw [← hW2]
    refine ⟨⟨by rw [← hg, ← hrb]; simpa using heap_alloc_new (w.alloc (.cells #[.int .i64 0, .string ⟨#[]⟩, .int .i64 0, .string ⟨#[]⟩, .bool false, .slice none 0 0, .slice none 0 0] 25)) (.cells #[.string s, .int .i64 0, .bool false] 45), by omega⟩, below_alloc (below_alloc (Below.refl _ w) _) _, ?_⟩
    rw [← hrb]
    exact blk_alloc (heap_alloc_new w _) _⟩
  have HN : Aside0 (rb = w.heap.size ∧ g = w.heap.size + 1) := ⟨by omega, by omega⟩
  have n1 : ¬ rb = g := by omega
  have n2 : ¬ g = rb := by omega
  rw [hrb, hg]
  clear hW2 hrb hg
  refine (spec_reading_blank.calls k g s 0 false s1 i1 b1 w _ HX0.out.st HX0.out.below HQ1.out).mono ?_
  rintro e w3 ⟨rfl, hi, hb, hk⟩
  have HX1 := Aside0.mk (HX0.out.step n1 hi hb hk)
  clear hi hb hk HX0 HQ1
  go_wp2_with fail
  refine (tree_all k g s1 i1 b1 T' s2 i2 b2 w _ HX1.out.st HX1.out.below HQ2.out).mono ?_
  rintro e w4 ⟨kv, iv, rfl, hT, hi, hb, hk⟩
  have HX2 := Aside0.mk (HX1.out.step n1 hi hb hk)
  have HT := Aside0.mk (hT.move (ok' := fun q => g < q) (w' := w4) (fun q hq _ => ⟨Nat.lt_of_lt_of_le (blk_lt HX1.out.st.1) hq, rfl⟩))
  obtain ⟨A5, n5, c5, A6, n6, c6, rfl, rfl⟩ : ∃ A5 n5 c5 A6 n6 c6, kv = .slice A5 n5 c5 ∧ iv = .slice A6 n6 c6 := tree_slices hT
  clear hi hb hk hT HX1 HQ2
  go_wp2_with fail
  obtain ⟨tb, htb⟩ : ∃ tb, w4.heap.size = tb := ⟨_, rfl⟩
  obtain ⟨W5, hW5⟩ : ∃ W5, w4.alloc (.cells #[.int .i64 T'.kind, .string T'.raw, .int .i64 T'.place, .string T'.str, .bool T'.pairs, (.slice A5 n5 c5), (.slice A6 n6 c6)] 25) = W5 := ⟨_, rfl⟩
  rw [htb, hW5]
  have HT3 : Aside0 (g < tb ∧ W5.heap[tb]? = some (.cells #[.int .i64 T'.kind, .string T'.raw, .int .i64 T'.place, .string T'.str, .bool T'.pairs, (.slice A5 n5 c5), (.slice A6 n6 c6)] 25 (0, 0)) ∧ TreeAt W5 (fun q => g < q) (cells7 T'.kind T'.raw T'.place T'.str T'.pairs (.slice A5 n5 c5) (.slice A6 n6 c6)) T') := ⟨by
    refine ⟨by rw [← htb]; exact blk_lt HX2.out.st.1, by rw [← hW5, ← htb]; exact heap_alloc_new w4 _, ?_⟩
    rw [← hW5]
    exact HT.out.move (fun q hq hlt => ⟨hq, heap_alloc_old w4 _ hlt⟩)⟩
  have HX3 : Aside0 (RB w W5 g rb s2 i2 b2) := ⟨by
    rw [← hW5]
    exact HX2.out.step n1 (HX2.out.st.alloc _) (below_alloc HX2.out.below _) (keep_alloc (KeepBut.refl w4 g none) _)⟩
  clear htb hW5 HX2 HT
  refine (spec_reading_blank.calls k g s2 i2 b2 s3 i3 b3 w _ HX3.out.st HX3.out.below HQ3.out).mono ?_
  rintro e w6 ⟨rfl, hi, hb, hk⟩
  have HX4 := Aside0.mk (HX3.out.step n1 hi hb hk)
  have HT4 : Aside0 (g < tb ∧ w6.heap[tb]? = some (.cells #[.int .i64 T'.kind, .string T'.raw, .int .i64 T'.place, .string T'.str, .bool T'.pairs, (.slice A5 n5 c5), (.slice A6 n6 c6)] 25 (0, 0)) ∧ TreeAt w6 (fun q => g < q) (cells7 T'.kind T'.raw T'.place T'.str T'.pairs (.slice A5 n5 c5) (.slice A6 n6 c6)) T') := ⟨by
    have hg := HT3.out.1
    refine ⟨hg, by rw [hk.2 tb (blk_lt HT3.out.2.1) (by omega) (by simp)]; exact HT3.out.2.1, ?_⟩
    exact HT3.out.2.2.move (fun q hq hlt => ⟨hq, hk.2 q hlt (by omega) (by simp)⟩)⟩
  clear hi hb hk HX3 HT3 HQ3
  have hz := HX4.out.st.1
  have z0 := cellS45_0 hz
  have z1 := cellS45_1 hz
  have z2 := cellS45_2 hz
  have hx := HT4.out.2.1
  have t0 := (blk_cell hx 0).trans (rfl : _ = some (Value.int .i64 T'.kind))
  have t1 := (blk_cell hx 1).trans (rfl : _ = some (Value.string T'.raw))
  have t2 := (blk_cell hx 2).trans (rfl : _ = some (Value.int .i64 T'.place))
  have t3 := (blk_cell hx 3).trans (rfl : _ = some (Value.string T'.str))
  have t4 := (blk_cell hx 4).trans (rfl : _ = some (Value.bool T'.pairs))
  have t5 := (blk_cell hx 5).trans (rfl : _ = some (Value.slice A5 n5 c5))
  have t6 := (blk_cell hx 6).trans (rfl : _ = some (Value.slice A6 n6 c6))
  have hy := HX4.out.res
  have r0 := (blk_cell hy 0).trans (rfl : _ = some (Value.int .i64 0))
  have r1 := (blk_cell hy 1).trans (rfl : _ = some (Value.string ⟨#[]⟩))
  have r2 := (blk_cell hy 2).trans (rfl : _ = some (Value.int .i64 0))
  have r3 := (blk_cell hy 3).trans (rfl : _ = some (Value.string ⟨#[]⟩))
  have r4 := (blk_cell hy 4).trans (rfl : _ = some (Value.bool false))
  have r5 := (blk_cell hy 5).trans (rfl : _ = some (Value.slice none 0 0))
  have r6 := (blk_cell hy 6).trans (rfl : _ = some (Value.slice none 0 0))
  have q0 := blk_frozen hy 0
  have q1 := blk_frozen hy 1
  have q2 := blk_frozen hy 2
  have q3 := blk_frozen hy 3
  have q4 := blk_frozen hy 4
  have q5 := blk_frozen hy 5
  have q6 := blk_frozen hy 6
  have m1 : ¬ rb = tb := by have := HT4.out.1; have := HN.out; omega
  have m2 : ¬ tb = rb := by omega
  clear hz hx hy
  cases b3 with
  | true =>
    go_wp2_with fail
    go_region
    all_goals go_wp2
    refine bodyPost_ret (v := .tuple #[.agg #[.int .i64 T'.kind, .string T'.raw, .int .i64 T'.place, .string T'.str, .bool T'.pairs, .slice A5 n5 c5, .slice A6 n6 c6], .bool (!true && i3 == (s.size : Int))]) (by simp [results, Tryd.results7, go_sem, r0, r1, r2, r3, r4, r5, r6]) rfl ?_
    have hB : Below 0 w6 (row7 w6 rb 0 (.int .i64 T'.kind) (.string T'.raw) (.int .i64 T'.place) (.string T'.str) (.bool T'.pairs) (.slice A5 n5 c5) (.slice A6 n6 c6)).drew := (row7_below w6 rb 0 _ _ _ _ _ _ _).drew
    have hF : ∀ q, q ≠ rb → (row7 w6 rb 0 (.int .i64 T'.kind) (.string T'.raw) (.int .i64 T'.place) (.string T'.str) (.bool T'.pairs) (.slice A5 n5 c5) (.slice A6 n6 c6)).drew.heap[q]? = w6.heap[q]? := fun q h1 => by
      rw [drew_heap]
      exact row7_far w6 rb 0 _ _ _ _ _ _ _ q h1
    exact HX4.out.done HN.out.1 HN.out.2 HT4.out.2.2 hB hF
  | false =>
    go_wp2_with fail
    go_region
    all_goals go_wp2
    refine bodyPost_ret (v := .tuple #[.agg #[.int .i64 T'.kind, .string T'.raw, .int .i64 T'.place, .string T'.str, .bool T'.pairs, .slice A5 n5 c5, .slice A6 n6 c6], .bool (!false && i3 == (s.size : Int))]) (by simp [results, Tryd.results7, go_sem, r0, r1, r2, r3, r4, r5, r6]) rfl ?_
    have hB : Below 0 w6 (row7 w6 rb 0 (.int .i64 T'.kind) (.string T'.raw) (.int .i64 T'.place) (.string T'.str) (.bool T'.pairs) (.slice A5 n5 c5) (.slice A6 n6 c6)).drew := (row7_below w6 rb 0 _ _ _ _ _ _ _).drew
    have hF : ∀ q, q ≠ rb → (row7 w6 rb 0 (.int .i64 T'.kind) (.string T'.raw) (.int .i64 T'.place) (.string T'.str) (.bool T'.pairs) (.slice A5 n5 c5) (.slice A6 n6 c6)).drew.heap[q]? = w6.heap[q]? := fun q h1 => by
      rw [drew_heap]
      exact row7_far w6 rb 0 _ _ _ _ _ _ _ q h1
    exact HX4.out.done HN.out.1 HN.out.2 HT4.out.2.2 hB hF
end Go.Proofs.YtldfejbmdonaoaaDoor.Tr