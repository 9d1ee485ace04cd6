/- Joined by a program of mine from texts of this claim: Tr, Tg. -/
import Derived.Test.YtldfejbmdonaoaaGreatDoorZB36
import Derived.RegionTactic
import Derived.BigRegion
import Derived.Test.YtldfejbmdonaoaaGreatDoorZB27
namespace Go.Proofs.YtldfejbmdonaoaaGreatDoor.Tr
open Go.RowKit YtldfejbmdonaoaaGreatDoorW.PrintWords YtldfejbmdonaoaaGreatDoorW.PrintLast YtldfejbmdonaoaaGreatDoorW.PrintMore Tw Tf Tl Tt Sp
set_option linter.unusedVariables false
set_option linter.unusedSimpArgs false
def readF (k : Nat) (s : ByteArray) : Option (JT × Bool) :=
  (spec_reading_blank.f k s 0 false).bind fun q => (treeF k q.1 q.2.1 q.2.2).bind fun t => (spec_reading_blank.f k t.2.1 t.2.2.1 t.2.2.2).bind fun q2 =>
    some (t.1, !q2.2.2 && q2.2.1 == (s.size : Int))
def ReadPost (w : World) (T : JT) (ok : Bool) (e : Ending) (w' : World) : Prop :=
  ∃ kv iv, e = .returned (.tuple #[.agg #[.int .i64 T.kind, .string T.raw, .int .i64 T.place, .string T.str, .bool T.pairs, kv, iv], .bool ok]) ∧ TreeAt w' (fun q => w.heap.size ≤ q) (cells7 T.kind T.raw T.place T.str T.pairs kv iv) T ∧ Below w.heap.size w w'
structure RB (w wr : World) (g rb : Nat) (s : ByteArray) (i : Int) (b : Bool) : Prop where
  st : IsS45 w wr g s i b
  below : Below w.heap.size w wr
  res : wr.heap[rb]? = some (.cells #[.int .i64 0, .string ⟨#[]⟩, .int .i64 0, .string ⟨#[]⟩, .bool false, .slice none 0 0, .slice none 0 0] 25 (0, 0))
theorem RB.step {w wr w1 : World} {g rb : Nat} {s s1 : ByteArray} {i i1 : Int} {b b1 : Bool} (h : RB w wr g rb s i b) (hn : ¬ rb = g)
    (hi : IsS45 w w1 g s1 i1 b1) (hb : Below w.heap.size w w1) (hk : KeepBut wr w1 g none) : RB w w1 g rb s1 i1 b1 :=
  ⟨hi, hb, by rw [hk.2 rb (blk_lt h.res) hn (by simp)]; exact h.res⟩
theorem RB.done {w wr w6 : World} {g rb : Nat} {s : ByteArray} {i : Int} {b ok : Bool} {T : JT} {kv iv : Value} (h : RB w wr g rb s i b) (hr : rb = w.heap.size) (hg : g = w.heap.size + 1)
    (hT : TreeAt wr (fun q => g < q) (cells7 T.kind T.raw T.place T.str T.pairs kv iv) T) (hb : Below 0 wr w6) (hk : ∀ q, q ≠ rb → w6.heap[q]? = wr.heap[q]?) :
    ReadPost w T ok (.returned (.tuple #[.agg #[.int .i64 T.kind, .string T.raw, .int .i64 T.place, .string T.str, .bool T.pairs, kv, iv], .bool ok])) w6 := by
  refine ⟨kv, iv, rfl, hT.move (fun q hq _ => ⟨by omega, hk q (by omega)⟩), ?_⟩
  exact ⟨hb.os.trans h.below.os, hb.tape.trans h.below.tape, hb.output.trans h.below.output, Nat.le_trans h.below.size hb.size, fun q hq => (hk q (by omega)).trans (h.below.block q hq)⟩
set_option maxRecDepth 100000 in
set_option maxHeartbeats 8000000 in
theorem read_any (k : Nat) (s : ByteArray) (T : JT) (ok : Bool) (w : World) (hs : s.size ≤ 65536) (h : readF k s = some (T, ok)) :
    Calls Tryz.prog 7 #[.string s] w (ReadPost w T ok) := by
  unfold readF at h
  replace h := Option.bind_eq_some_iff.mp h
  obtain ⟨⟨s1, i1, b1⟩, hq1, h⟩ := h
  replace h := Option.bind_eq_some_iff.mp h
  obtain ⟨⟨T', s2, i2, b2⟩, hq2, h⟩ := h
  replace h := Option.bind_eq_some_iff.mp h
  obtain ⟨⟨s3, i3, b3⟩, hq3, h⟩ := h
  simp only [Option.some.injEq, Prod.mk.injEq] at h
  obtain ⟨rfl, rfl⟩ := h
  have HQ1 := Aside0.mk hq1
  have HQ2 := Aside0.mk hq2
  have HQ3 := Aside0.mk hq3
  have h1 : ¬ (65536 : Int) < (s.size : Int) := by omega
  clear hq1 hq2 hq3 hs
  go_enter Tryz.func7, Tryz.ntmps7
  go_wp2_with fail
  obtain ⟨W2, hW2⟩ : ∃ W2, (w.alloc (.cells #[.int .i64 0, .string ⟨#[]⟩, .int .i64 0, .string ⟨#[]⟩, .bool false, .slice none 0 0, .slice none 0 0] 25)).alloc (.cells #[.string s, .int .i64 0, .bool false] 45) = W2 := ⟨_, rfl⟩
  rw [hW2]
  obtain ⟨rb, hrb⟩ : ∃ rb, w.heap.size = rb := ⟨_, rfl⟩
  obtain ⟨g, hg⟩ : ∃ g, rb + 1 = g := ⟨_, rfl⟩
  have HX0 : Aside0 (RB w W2 g rb s 0 false) := ⟨by
    rw [← hW2]
    refine ⟨⟨by rw [← hg, ← hrb]; simpa using heap_alloc_new (w.alloc (.cells #[.int .i64 0, .string ⟨#[]⟩, .int .i64 0, .string ⟨#[]⟩, .bool false, .slice none 0 0, .slice none 0 0] 25)) (.cells #[.string s, .int .i64 0, .bool false] 45), by omega⟩, below_alloc (below_alloc (Below.refl _ w) _) _, ?_⟩
    rw [← hrb]
    exact blk_alloc (heap_alloc_new w _) _⟩
  have HN : Aside0 (rb = w.heap.size ∧ g = w.heap.size + 1) := ⟨by omega, by omega⟩
  have n1 : ¬ rb = g := by omega
  have n2 : ¬ g = rb := by omega
  rw [hrb, hg]
  clear hW2 hrb hg
  refine (spec_reading_blank.calls k g s 0 false s1 i1 b1 w _ HX0.out.st HX0.out.below HQ1.out).mono ?_
  rintro e w3 ⟨rfl, hi, hb, hk⟩
  have HX1 := Aside0.mk (HX0.out.step n1 hi hb hk)
  clear hi hb hk HX0 HQ1
  go_wp2_with fail
  refine (tree_all k g s1 i1 b1 T' s2 i2 b2 w _ HX1.out.st HX1.out.below HQ2.out).mono ?_
  rintro e w4 ⟨kv, iv, rfl, hT, hi, hb, hk⟩
  have HX2 := Aside0.mk (HX1.out.step n1 hi hb hk)
  have HT := Aside0.mk (hT.move (ok' := fun q => g < q) (w' := w4) (fun q hq _ => ⟨Nat.lt_of_lt_of_le (blk_lt HX1.out.st.1) hq, rfl⟩))
  obtain ⟨A5, n5, c5, A6, n6, c6, rfl, rfl⟩ : ∃ A5 n5 c5 A6 n6 c6, kv = .slice A5 n5 c5 ∧ iv = .slice A6 n6 c6 := tree_slices hT
  clear hi hb hk hT HX1 HQ2
  go_wp2_with fail
  obtain ⟨tb, htb⟩ : ∃ tb, w4.heap.size = tb := ⟨_, rfl⟩
  obtain ⟨W5, hW5⟩ : ∃ W5, w4.alloc (.cells #[.int .i64 T'.kind, .string T'.raw, .int .i64 T'.place, .string T'.str, .bool T'.pairs, (.slice A5 n5 c5), (.slice A6 n6 c6)] 25) = W5 := ⟨_, rfl⟩
  rw [htb, hW5]
  have HT3 : Aside0 (g < tb ∧ W5.heap[tb]? = some (.cells #[.int .i64 T'.kind, .string T'.raw, .int .i64 T'.place, .string T'.str, .bool T'.pairs, (.slice A5 n5 c5), (.slice A6 n6 c6)] 25 (0, 0)) ∧ TreeAt W5 (fun q => g < q) (cells7 T'.kind T'.raw T'.place T'.str T'.pairs (.slice A5 n5 c5) (.slice A6 n6 c6)) T') := ⟨by
    refine ⟨by rw [← htb]; exact blk_lt HX2.out.st.1, by rw [← hW5, ← htb]; exact heap_alloc_new w4 _, ?_⟩
    rw [← hW5]
    exact HT.out.move (fun q hq hlt => ⟨hq, heap_alloc_old w4 _ hlt⟩)⟩
  have HX3 : Aside0 (RB w W5 g rb s2 i2 b2) := ⟨by
    rw [← hW5]
    exact HX2.out.step n1 (HX2.out.st.alloc _) (below_alloc HX2.out.below _) (keep_alloc (KeepBut.refl w4 g none) _)⟩
  clear htb hW5 HX2 HT
  refine (spec_reading_blank.calls k g s2 i2 b2 s3 i3 b3 w _ HX3.out.st HX3.out.below HQ3.out).mono ?_
  rintro e w6 ⟨rfl, hi, hb, hk⟩
  have HX4 := Aside0.mk (HX3.out.step n1 hi hb hk)
  have HT4 : Aside0 (g < tb ∧ w6.heap[tb]? = some (.cells #[.int .i64 T'.kind, .string T'.raw, .int .i64 T'.place, .string T'.str, .bool T'.pairs, (.slice A5 n5 c5), (.slice A6 n6 c6)] 25 (0, 0)) ∧ TreeAt w6 (fun q => g < q) (cells7 T'.kind T'.raw T'.place T'.str T'.pairs (.slice A5 n5 c5) (.slice A6 n6 c6)) T') := ⟨by
    have hg := HT3.out.1
    refine ⟨hg, by rw [hk.2 tb (blk_lt HT3.out.2.1) (by omega) (by simp)]; exact HT3.out.2.1, ?_⟩
    exact HT3.out.2.2.move (fun q hq hlt => ⟨hq, hk.2 q hlt (by omega) (by simp)⟩)⟩
  clear hi hb hk HX3 HT3 HQ3
  have hz := HX4.out.st.1
  have z0 := cellS45_0 hz
  have z1 := cellS45_1 hz
  have z2 := cellS45_2 hz
  have hx := HT4.out.2.1
  have t0 := (blk_cell hx 0).trans (rfl : _ = some (Value.int .i64 T'.kind))
  have t1 := (blk_cell hx 1).trans (rfl : _ = some (Value.string T'.raw))
  have t2 := (blk_cell hx 2).trans (rfl : _ = some (Value.int .i64 T'.place))
  have t3 := (blk_cell hx 3).trans (rfl : _ = some (Value.string T'.str))
  have t4 := (blk_cell hx 4).trans (rfl : _ = some (Value.bool T'.pairs))
  have t5 := (blk_cell hx 5).trans (rfl : _ = some (Value.slice A5 n5 c5))
  have t6 := (blk_cell hx 6).trans (rfl : _ = some (Value.slice A6 n6 c6))
  have hy := HX4.out.res
  have r0 := (blk_cell hy 0).trans (rfl : _ = some (Value.int .i64 0))
  have r1 := (blk_cell hy 1).trans (rfl : _ = some (Value.string ⟨#[]⟩))
  have r2 := (blk_cell hy 2).trans (rfl : _ = some (Value.int .i64 0))
  have r3 := (blk_cell hy 3).trans (rfl : _ = some (Value.string ⟨#[]⟩))
  have r4 := (blk_cell hy 4).trans (rfl : _ = some (Value.bool false))
  have r5 := (blk_cell hy 5).trans (rfl : _ = some (Value.slice none 0 0))
  have r6 := (blk_cell hy 6).trans (rfl : _ = some (Value.slice none 0 0))
  have q0 := blk_frozen hy 0
  have q1 := blk_frozen hy 1
  have q2 := blk_frozen hy 2
  have q3 := blk_frozen hy 3
  have q4 := blk_frozen hy 4
  have q5 := blk_frozen hy 5
  have q6 := blk_frozen hy 6
  have m1 : ¬ rb = tb := by have := HT4.out.1; have := HN.out; omega
  have m2 : ¬ tb = rb := by omega
  clear hz hx hy
  cases b3 with
  | true =>
    go_wp2_with fail
    go_region
    all_goals go_wp2
    refine bodyPost_ret (v := .tuple #[.agg #[.int .i64 T'.kind, .string T'.raw, .int .i64 T'.place, .string T'.str, .bool T'.pairs, .slice A5 n5 c5, .slice A6 n6 c6], .bool (!true && i3 == (s.size : Int))]) (by simp [results, Tryz.results7, go_sem, r0, r1, r2, r3, r4, r5, r6]) rfl ?_
    have hB : Below 0 w6 (row7 w6 rb 0 (.int .i64 T'.kind) (.string T'.raw) (.int .i64 T'.place) (.string T'.str) (.bool T'.pairs) (.slice A5 n5 c5) (.slice A6 n6 c6)).drew := (row7_below w6 rb 0 _ _ _ _ _ _ _).drew
    have hF : ∀ q, q ≠ rb → (row7 w6 rb 0 (.int .i64 T'.kind) (.string T'.raw) (.int .i64 T'.place) (.string T'.str) (.bool T'.pairs) (.slice A5 n5 c5) (.slice A6 n6 c6)).drew.heap[q]? = w6.heap[q]? := fun q h1 => by
      rw [drew_heap]
      exact row7_far w6 rb 0 _ _ _ _ _ _ _ q h1
    exact HX4.out.done HN.out.1 HN.out.2 HT4.out.2.2 hB hF
  | false =>
    go_wp2_with fail
    go_region
    all_goals go_wp2
    refine bodyPost_ret (v := .tuple #[.agg #[.int .i64 T'.kind, .string T'.raw, .int .i64 T'.place, .string T'.str, .bool T'.pairs, .slice A5 n5 c5, .slice A6 n6 c6], .bool (!false && i3 == (s.size : Int))]) (by simp [results, Tryz.results7, go_sem, r0, r1, r2, r3, r4, r5, r6]) rfl ?_
    have hB : Below 0 w6 (row7 w6 rb 0 (.int .i64 T'.kind) (.string T'.raw) (.int .i64 T'.place) (.string T'.str) (.bool T'.pairs) (.slice A5 n5 c5) (.slice A6 n6 c6)).drew := (row7_below w6 rb 0 _ _ _ _ _ _ _).drew
    have hF : ∀ q, q ≠ rb → (row7 w6 rb 0 (.int .i64 T'.kind) (.string T'.raw) (.int .i64 T'.place) (.string T'.str) (.bool T'.pairs) (.slice A5 n5 c5) (.slice A6 n6 c6)).drew.heap[q]? = w6.heap[q]? := fun q h1 => by
      rw [drew_heap]
      exact row7_far w6 rb 0 _ _ _ _ _ _ _ q h1
    exact HX4.out.done HN.out.1 HN.out.2 HT4.out.2.2 hB hF
end Go.Proofs.YtldfejbmdonaoaaGreatDoor.Tr
namespace Go.Proofs.YtldfejbmdonaoaaGreatDoor.Tg
open Go.RowKit YtldfejbmdonaoaaGreatDoorW.PrintWords YtldfejbmdonaoaaGreatDoorW.PrintLast YtldfejbmdonaoaaGreatDoorW.PrintMore Tw Tf Tp Te Sp
set_option linter.unusedVariables false
set_option linter.unusedSimpArgs false
def TREADS (s : ByteArray) (i : Int) (b : Bool) (r : Option (JT × ByteArray × Int × Bool)) : Prop := ∃ T j b', r = some (T, s, j, b') ∧ i ≤ j ∧ j ≤ (s.size : Int) ∧ (b = true → b' = true)
def LREADS (s : ByteArray) (i : Int) (b : Bool) (r : Option (List ByteArray × List JT × Bool × ByteArray × Int × Bool)) : Prop := ∃ K I P j b', r = some (K, I, P, s, j, b') ∧ i ≤ j ∧ j ≤ (s.size : Int) ∧ (b = true → b' = true)
theorem fin_reads {s : ByteArray} {i0 i j : Int} {b b' : Bool} (kind : Int) (str : ByteArray) (P : Bool) (K : List ByteArray) (I : List JT) (h0 : 0 ≤ i0) (h1 : i0 ≤ i) (h2 : i ≤ (s.size : Int)) (hb : b = true → b' = true) : TREADS s i0 b (finF kind str P K I i0 s i b') := by
  unfold finF
  cases b' with
  | true => exact ⟨_, _, _, rfl, h1, h2, fun _ => rfl⟩
  | false =>
    rw [if_neg (by decide), if_pos h0, if_pos h1, if_pos h2]
    exact ⟨_, _, _, rfl, h1, h2, hb⟩
theorem LREADS.mono {s : ByteArray} {i i' : Int} {b b' : Bool} {r : Option (List ByteArray × List JT × Bool × ByteArray × Int × Bool)} (h : LREADS s i b r) (h1 : i' ≤ i) (h2 : b' = true → b = true) : LREADS s i' b' r := by
  obtain ⟨K, I, P, j, c, e, j1, j2, j3⟩ := h
  exact ⟨K, I, P, j, c, e, by omega, j2, fun x => j3 (h2 x)⟩
theorem three : ∀ x : ByteArray, x = (⟨#[116, 114, 117, 101]⟩ : ByteArray) ∨ x = (⟨#[102, 97, 108, 115, 101]⟩ : ByteArray) ∨ x = (⟨#[110, 117, 108, 108]⟩ : ByteArray) → (x.size : Int) ≤ 100 ∧ ∀ q : Int, 0 ≤ q → q < (x.size : Int) → bt x q ≠ 0 := by
  intro x hx
  have h5 : x.size ≤ 5 := by rcases hx with rfl | rfl | rfl <;> decide
  refine ⟨by omega, fun q h1 h2 => ?_⟩
  have h3 : q = 0 ∨ q = 1 ∨ q = 2 ∨ q = 3 ∨ q = 4 := by omega
  rcases hx with rfl | rfl | rfl <;> rcases h3 with rfl | rfl | rfl | rfl | rfl <;> first | decide | exact absurd h2 (by decide)
section
variable {s : ByteArray} (hs : (s.size : Int) ≤ 65536)
include hs
set_option maxHeartbeats 4000000 in
theorem all_read : ∀ k : Nat,
    (∀ i b, 0 ≤ i → i ≤ (s.size : Int) → 8 * ((s.size : Int) - i) + 164 ≤ k → TREADS s i b (treeF k s i b)) ∧
    (∀ i b e ks, 0 ≤ i → i + 1 ≤ (s.size : Int) → e ≠ 0 → 8 * ((s.size : Int) - (i + 1)) + 170 ≤ k → LREADS s (i + 1) b (listF k s i b e ks)) ∧
    (∀ i b e ks K I P, 0 ≤ i → i ≤ (s.size : Int) → e ≠ 0 → (K.length : Int) ≤ i → (I.length : Int) ≤ i → 8 * ((s.size : Int) - i) + 169 ≤ k → LREADS s i b (loopF k s i b e ks K I P)) ∧
    (∀ i b e ks K I P, 0 ≤ i → i ≤ (s.size : Int) → e ≠ 0 → (K.length : Int) ≤ i + 1 → (I.length : Int) ≤ i → 8 * ((s.size : Int) - i) + 168 ≤ k → LREADS s i b (itemF k s i b e ks K I P)) := by
  intro k
  induction k with
  | zero => exact ⟨fun i b h0 h1 h => by omega, fun i b e ks h0 h1 he h => by omega, fun i b e ks K I P h0 h1 he hK hI h => by omega, fun i b e ks K I P h0 h1 he hK hI h => by omega⟩
  | succ k ih =>
    obtain ⟨ihT, ihL, ihO, ihI⟩ := ih
    have hs' : (s.size : Int) ≤ 2147483647 := by omega
    refine ⟨fun i b h0 h1 h => ?_, fun i b e ks h0 h1 he h => ?_, fun i b e ks K I P h0 h1 he hK hI h => ?_, fun i b e ks K I P h0 h1 he hK hI h => ?_⟩
    · rw [treeF, next_eq h0]
      simp only [Option.bind_some]
      by_cases c1 : bt s i = 34
      · rw [if_pos c1]
        obtain ⟨t, p, j, b', e, j1, j2, j3⟩ := text_any hs' h0 h1 b (k := k) (by omega)
        rw [e]
        exact fin_reads (j := j) _ _ _ _ _ h0 j1 j2 j3
      · rw [if_neg c1]
        have word : ∀ x : ByteArray, x = (⟨#[116, 114, 117, 101]⟩ : ByteArray) ∨ x = (⟨#[102, 97, 108, 115, 101]⟩ : ByteArray) ∨ x = (⟨#[110, 117, 108, 108]⟩ : ByteArray) → ∀ kind, TREADS s i b ((spec_reading_word.f k s i b x).bind fun t => finF kind (⟨#[]⟩ : ByteArray) true [] [] i t.1 t.2.1 t.2.2) := by
          intro x hx kind
          have h3 := three x hx
          obtain ⟨j, b', e, j1, j2, _, _, j3⟩ := word_eq hs' x h3.1 h3.2 h0 h1 b (k := k) (by omega)
          rw [e]
          exact fin_reads (j := j) _ _ _ _ _ h0 j1 j2 j3
        by_cases c2 : bt s i = 116
        · rw [if_pos c2]; exact word _ (.inl rfl) 4
        rw [if_neg c2]
        by_cases c3 : bt s i = 102
        · rw [if_pos c3]; exact word _ (.inr (.inl rfl)) 1
        rw [if_neg c3]
        by_cases c4 : bt s i = 110
        · rw [if_pos c4]; exact word _ (.inr (.inr rfl)) 0
        rw [if_neg c4]
        by_cases c5 : bt s i = 123
        · have hlt := lt_of_bt (s := s) (i := i) (by omega)
          rw [if_pos c5]
          obtain ⟨K, I, P, j, b', e, j1, j2, j3⟩ := ihL i b 125 true h0 (by omega) (by decide) (by omega)
          rw [e]
          exact fin_reads (j := j) _ _ _ _ _ h0 (by show i ≤ j; omega) j2 j3
        rw [if_neg c5]
        by_cases c6 : bt s i = 91
        · have hlt := lt_of_bt (s := s) (i := i) (by omega)
          rw [if_pos c6]
          obtain ⟨K, I, P, j, b', e, j1, j2, j3⟩ := ihL i b 93 false h0 (by omega) (by decide) (by omega)
          rw [e]
          exact fin_reads (j := j) _ _ _ _ _ h0 (by show i ≤ j; omega) j2 j3
        rw [if_neg c6, number_eq hs' h0 h1 b (by omega)]
        have := numEnd_le h1
        exact fin_reads (j := i) _ _ _ _ _ h0 this.1 this.2 (fun h => by rw [h]; rfl)
    · have hb := runEnd_le (p := ws) (s := s) (i := i + 1) h1
      rw [listF, w64 (n := i + 1) (by omega), blank_eq hs' (by omega) b (by omega)]
      simp only [Option.bind_some]
      rw [next_eq (by omega)]
      simp only [Option.bind_some]
      by_cases c : bt s (runEnd ws s (i + 1)) = e
      · have hlt := lt_of_bt (s := s) (i := runEnd ws s (i + 1)) (by rw [c]; exact he)
        rw [if_pos c, w64 (n := runEnd ws s (i + 1) + 1) (by omega)]
        exact ⟨_, _, _, _, _, rfl, by omega, by omega, fun h => h⟩
      · rw [if_neg c]
        exact (ihO _ b e ks [] [] true (by omega) hb.2 he (by simp; omega) (by simp; omega) (by omega)).mono (by omega) (fun h => h)
    · rw [loopF]
      cases b with
      | true =>
        rw [if_pos rfl, take_eq h0 hs' _ _ he]
        by_cases c : bt s i = e
        · have hlt := lt_of_bt (s := s) (i := i) (by rw [c]; exact he)
          rw [if_pos c]
          exact ⟨_, _, _, i + 1, _, rfl, by omega, by omega, fun h => h⟩
        · rw [if_neg c]
          exact ⟨_, _, _, i, _, rfl, by omega, by omega, fun h => h⟩
      | false =>
        rw [if_neg (by decide), if_pos (show K.length < 1000000 by omega)]
        cases ks with
        | false =>
          rw [if_neg (by decide)]
          exact ihI i false e false K I P h0 h1 he (by omega) hI (by omega)
        | true =>
          rw [if_pos rfl]
          obtain ⟨t, p, j, b1, e1, j1, j2, j3⟩ := text_any hs' h0 h1 false (k := k) (by omega)
          have hb1 := runEnd_le (p := ws) (s := s) (i := j) j2
          rw [e1]
          simp only [Option.bind_some]
          rw [blank_eq hs' (by omega) b1 (by omega)]
          simp only [Option.bind_some]
          rw [take_eq (by omega) hs' _ _ (by decide)]
          have go : ∀ i2 b2, j ≤ i2 → i2 ≤ (s.size : Int) → LREADS s i false ((spec_reading_blank.f k s i2 b2).bind fun q3 => itemF k q3.1 q3.2.1 q3.2.2 e true (K ++ [t]) I (P && p)) := by
            intro i2 b2 h2 h3
            have hb2 := runEnd_le (p := ws) (s := s) (i := i2) h3
            rw [blank_eq hs' (by omega) b2 (by omega)]
            exact (ihI _ b2 e true (K ++ [t]) I (P && p) (by omega) hb2.2 he (by rw [List.length_append]; simp; omega) (by omega) (by omega)).mono (by omega) (fun h => absurd h (by decide))
          by_cases c : bt s (runEnd ws s j) = 58
          · have hlt := lt_of_bt (s := s) (i := runEnd ws s j) (by omega)
            rw [if_pos c]
            exact go (runEnd ws s j + 1) b1 (by omega) (by omega)
          · rw [if_neg c]
            exact go (runEnd ws s j) true (by omega) (by omega)
    · rw [itemF, if_pos (show I.length < 1000000 by omega)]
      obtain ⟨T, j, b1, e1, j1, j2, j3⟩ := ihT i b h0 h1 (by omega)
      have hb1 := runEnd_le (p := ws) (s := s) (i := j) j2
      rw [e1]
      simp only [Option.bind_some]
      rw [blank_eq hs' (by omega) b1 (by omega)]
      simp only [Option.bind_some]
      rw [next_eq (by omega)]
      simp only [Option.bind_some]
      by_cases c : bt s (runEnd ws s j) = 44
      · have hlt := lt_of_bt (s := s) (i := runEnd ws s j) (by omega)
        have hb2 := runEnd_le (p := ws) (s := s) (i := runEnd ws s j + 1) (by omega)
        rw [if_pos c, w64 (n := runEnd ws s j + 1) (by omega), blank_eq hs' (by omega) b1 (by omega)]
        exact (ihO _ b1 e ks K (I ++ [T]) (P && T.pairs) (by omega) hb2.2 he (by omega) (by rw [List.length_append]; simp; omega) (by omega)).mono (by omega) j3
      · rw [if_neg c, take_eq (by omega) hs' _ _ he]
        by_cases c2 : bt s (runEnd ws s j) = e
        · have hlt := lt_of_bt (s := s) (i := runEnd ws s j) (by rw [c2]; exact he)
          rw [if_pos c2]
          exact ⟨_, _, _, runEnd ws s j + 1, _, rfl, by omega, by omega, j3⟩
        · rw [if_neg c2]
          exact ⟨_, _, _, runEnd ws s j, _, rfl, by omega, by omega, fun _ => rfl⟩
end
end Go.Proofs.YtldfejbmdonaoaaGreatDoor.Tg