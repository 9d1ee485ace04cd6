/- Joined by a program of mine from texts of this claim: Tt. -/
import Derived.Test.YtldfejbmdonaoaaDoorV35
import Derived.RegionTactic
import Derived.BigRegion
namespace Go.Proofs.YtldfejbmdonaoaaDoor.Tt
open Go.RowKit YtldfejbmdonaoaaDoorW.PrintWords YtldfejbmdonaoaaDoorW.PrintLast YtldfejbmdonaoaaDoorW.PrintMore Tw Tf Tl Sp
set_option linter.unusedVariables false
set_option linter.unusedSimpArgs false
structure Boxes (w0 w wr : World) (g rb tb : Nat) (kind : Int) (i0 : Int) (str : ByteArray) (P : Bool) (kv iv : Value) (s : ByteArray) (i : Int) (b : Bool) (K : List ByteArray) (I : List JT) : Prop where
  st : IsS45 w0 wr g s i b
  below : Below w0.heap.size w0 wr
  keep : KeepBut w wr g none
  box : wr.heap[tb]? = some (.cells #[.int .i64 kind, .string ⟨#[]⟩, .int .i64 i0, .string str, .bool P, kv, iv] 25 (0, 0))
  keys : StrsAt wr (fun q => tb < q) kv K
  items : ∃ cs, CellsAt wr (fun q => tb < q) iv I.length cs ∧ ∀ j (h : j < I.length), TreeAt wr (fun q => tb < q) (cs j) I[j]
  res : wr.heap[rb]? = some (.cells #[.int .i64 0, .string ⟨#[]⟩, .int .i64 0, .string ⟨#[]⟩, .bool false, .slice none 0 0, .slice none 0 0] 25 (0, 0))
section
variable {w0 w wr w1 : World} {g rb tb : Nat} {kind i0 : Int} {str : ByteArray} {P : Bool} {kv iv : Value} {s s1 : ByteArray} {i i1 : Int} {b b1 : Bool} {K : List ByteArray} {I : List JT}
theorem Boxes.reader (h : Boxes w0 w wr g rb tb kind i0 str P kv iv s i b K I) (hgw : g < w.heap.size) (hr : w.heap.size ≤ rb) (ht : w.heap.size ≤ tb)
    (hi : IsS45 w0 w1 g s1 i1 b1) (hb : Below w0.heap.size w0 w1) (hk : KeepBut wr w1 g none) : Boxes w0 w w1 g rb tb kind i0 str P kv iv s1 i1 b1 K I := by
  have keep : ∀ q, q < wr.heap.size → q ≠ g → w1.heap[q]? = wr.heap[q]? := fun q hq hn => hk.2 q hq hn (by simp)
  have mv : ∀ q, tb < q → q < wr.heap.size → tb < q ∧ w1.heap[q]? = wr.heap[q]? := fun q hq hlt => ⟨hq, keep q hlt (by omega)⟩
  obtain ⟨cs, hc, hT⟩ := h.items
  exact ⟨hi, hb, KeepBut.trans h.keep hk (.inl rfl), by rw [keep tb (blk_lt h.box) (by omega)]; exact h.box, h.keys.move mv, ⟨cs, hc.move mv, fun j hj => (hT j hj).move mv⟩, by rw [keep rb (blk_lt h.res) (by omega)]; exact h.res⟩
theorem Boxes.store {j : Nat} {u : Value} {kind' : Int} {str' : ByteArray} {P' : Bool} (h : Boxes w0 w wr g rb tb kind i0 str P kv iv s i b [] []) (hgw : g < w.heap.size) (h0 : w0.heap.size ≤ w.heap.size) (hr : rb ≠ tb) (ht : w.heap.size ≤ tb)
    (hbox : (wr.setCell ⟨tb, j, none⟩ u).heap[tb]? = some (.cells #[.int .i64 kind', .string ⟨#[]⟩, .int .i64 i0, .string str', .bool P', kv, iv] 25 (0, 0))) :
    Boxes w0 w (wr.setCell ⟨tb, j, none⟩ u) g rb tb kind' i0 str' P' kv iv s i b [] [] := by
  have far : ∀ q, q ≠ tb → (wr.setCell ⟨tb, j, none⟩ u).heap[q]? = wr.heap[q]? := fun q hq => Below.heap_setCell _ _ _ _ hq
  obtain ⟨A, c, hk, hcp, _⟩ := h.keys
  obtain ⟨cs, ⟨A', c', hc, hmx, h7, _⟩, _⟩ := h.items
  refine ⟨h.st.far (p := ⟨tb, j, none⟩) (by show g ≠ tb; omega) _, h.below.setCell (by show w0.heap.size ≤ tb; omega) _, ⟨by have := h.keep.1; simpa [World.setCell] using this, fun q hq hn hn2 => (far q (by omega)).trans (h.keep.2 q hq hn hn2)⟩, hbox, ⟨A, c, hk, hcp, fun hp => absurd hp (Nat.lt_irrefl 0)⟩, ⟨cs, ⟨A', c', hc, hmx, h7, fun hp => absurd hp (Nat.lt_irrefl 0)⟩, fun j hj => absurd hj (Nat.not_lt_zero j)⟩, by rw [far rb hr]; exact h.res⟩
theorem Boxes.setKind (h : Boxes w0 w wr g rb tb kind i0 str P kv iv s i b [] []) (hgw : g < w.heap.size) (h0 : w0.heap.size ≤ w.heap.size) (hr : rb ≠ tb) (ht : w.heap.size ≤ tb) (k' : Int) :
    Boxes w0 w (wr.setCell ⟨tb, 0, none⟩ (.int .i64 k')) g rb tb k' i0 str P kv iv s i b [] [] := h.store hgw h0 hr ht (by simpa using blk_set h.box 0 (.int .i64 k'))
theorem Boxes.setStr (h : Boxes w0 w wr g rb tb kind i0 str P kv iv s i b [] []) (hgw : g < w.heap.size) (h0 : w0.heap.size ≤ w.heap.size) (hr : rb ≠ tb) (ht : w.heap.size ≤ tb) (x : ByteArray) :
    Boxes w0 w (wr.setCell ⟨tb, 3, none⟩ (.string x)) g rb tb kind i0 x P kv iv s i b [] [] := h.store hgw h0 hr ht (by simpa using blk_set h.box 3 (.string x))
theorem Boxes.setPairs (h : Boxes w0 w wr g rb tb kind i0 str P kv iv s i b [] []) (hgw : g < w.heap.size) (h0 : w0.heap.size ≤ w.heap.size) (hr : rb ≠ tb) (ht : w.heap.size ≤ tb) (x : Bool) :
    Boxes w0 w (wr.setCell ⟨tb, 4, none⟩ (.bool x)) g rb tb kind i0 str x kv iv s i b [] [] := h.store hgw h0 hr ht (by simpa using blk_set h.box 4 (.bool x))
theorem Boxes.list {kv1 iv1 : Value} {P1 : Bool} (h : Boxes w0 w wr g rb tb kind i0 str P kv iv s i b [] []) (hgw : g < w.heap.size) (hr : w.heap.size ≤ rb) (hrt : rb ≠ tb) (ht : w.heap.size ≤ tb)
    (hv : Inv w0 wr w1 g tb (.int .i64 kind) (.string ⟨#[]⟩) (.int .i64 i0) (.string str) s1 i1 b1 K I P1 kv1 iv1) : Boxes w0 w w1 g rb tb kind i0 str P1 kv1 iv1 s1 i1 b1 K I := by
  have hs := h.keep.1
  have htl : tb < wr.heap.size := blk_lt h.box
  obtain ⟨cs, hc, hT⟩ := hv.items.cells (fun q hq => hq.1)
  refine ⟨hv.st, hv.below, ⟨Nat.le_trans hs hv.kept.size, fun q hq hn hn2 => ?_⟩, hv.box, hv.keys.strs.move (fun q hq _ => ⟨Nat.lt_of_lt_of_le htl hq, rfl⟩), ⟨cs, hc.move (fun q hq _ => ⟨Nat.lt_of_lt_of_le htl hq, rfl⟩), fun j hj => (hT j hj).move (fun q hq _ => ⟨Nat.lt_of_lt_of_le htl hq, rfl⟩)⟩, ?_⟩
  · exact (hv.kept.block q (by omega) hn (by omega)).trans (h.keep.2 q hq hn hn2)
  · rw [hv.kept.block rb (blk_lt h.res) (by omega) hrt]
    exact h.res
theorem Boxes.done {w6 : World} {raw : ByteArray} (h : Boxes w0 w wr g rb tb kind i0 str P kv iv s i b K I) (hgw : g < w.heap.size) (h0 : w0.heap.size ≤ w.heap.size) (hr : w.heap.size ≤ rb) (ht : w.heap.size ≤ tb) (hrt : rb < tb)
    (hb : Below 0 wr w6) (hk : ∀ q, q ≠ rb → q ≠ tb → w6.heap[q]? = wr.heap[q]?) :
    TreePost w0 w g (.mk kind raw i0 str P K I) s i b (.returned (.agg #[.int .i64 kind, .string raw, .int .i64 i0, .string str, .bool P, kv, iv])) w6 := by
  have mv : ∀ q, tb < q → q < wr.heap.size → w.heap.size ≤ q ∧ w6.heap[q]? = wr.heap[q]? := fun q hq _ => ⟨by omega, hk q (by omega) (by omega)⟩
  obtain ⟨cs, hc, hT⟩ := h.items
  have keep : ∀ q, q < w.heap.size → w6.heap[q]? = wr.heap[q]? := fun q hq => hk q (by omega) (by omega)
  refine ⟨kv, iv, rfl, .mk kind raw i0 str P kv iv K I cs (h.keys.move mv) (hc.move mv) (fun j hj => (hT j hj).move mv), ⟨by rw [keep g hgw]; exact h.st.1, h.st.2⟩, ?_, ⟨Nat.le_trans h.keep.1 hb.size, fun q hq hn hn2 => (keep q hq).trans (h.keep.2 q hq hn hn2)⟩⟩
  exact ⟨hb.os.trans h.below.os, hb.tape.trans h.below.tape, hb.output.trans h.below.output, Nat.le_trans h.below.size hb.size, fun q hq => (keep q (by omega)).trans (h.below.block q hq)⟩
end
theorem drew_heap (W : World) : W.drew.heap = W.heap := rfl
set_option maxRecDepth 100000 in
set_option maxHeartbeats 8000000 in
theorem tree_walk (k : Nat) (ih : ∀ m, m < k → TreeOk m) : TreeOk k := by
  intro g s i b T s' i' b' w0 w hI hB h
  cases k with
  | zero => exact absurd h (by simp [treeF])
  | succ k =>
    simp only [treeF] at h
    replace h := Option.bind_eq_some_iff.mp h
    obtain ⟨⟨c, s1, i1, b1⟩, hc, h⟩ := h
    dsimp only at h
    have HC := Aside0.mk hc
    have H := Aside0.mk h
    have HI := Aside0.mk hI
    have HB := Aside0.mk hB
    have hz := hI.1
    have hgw := blk_lt hz
    have z1 : ∀ o, (w.alloc o).cell? ⟨g, 1, none⟩ = some (.int .i64 i) := fun o => (blk_cell (blk_alloc hz o) 1).trans rfl
    have HGW := Aside0.mk hgw
    clear hc h hI hB hz hgw
    go_enter Tryd.func17, Tryd.ntmps17
    go_wp2_with fail
    obtain ⟨W2, hW2⟩ : ∃ W2, (w.alloc (.cells #[.int .i64 0, .string ⟨#[]⟩, .int .i64 0, .string ⟨#[]⟩, .bool false, .slice none 0 0, .slice none 0 0] 25)).alloc (.cells #[.int .i64 5, .string ⟨#[]⟩, .int .i64 i, .string ⟨#[]⟩, .bool true, .slice none 0 0, .slice none 0 0] 25) = W2 := ⟨_, rfl⟩
    rw [hW2]
    obtain ⟨rb, hrb⟩ : ∃ rb, w.heap.size = rb := ⟨_, rfl⟩
    obtain ⟨tb, htb⟩ : ∃ tb, rb + 1 = tb := ⟨_, rfl⟩
    rw [hrb, htb]
    have HX0 : Aside0 (Boxes w0 w W2 g rb tb 5 i ⟨#[]⟩ true (.slice none 0 0) (.slice none 0 0) s i b [] []) := ⟨by
      rw [← hW2]
      refine ⟨(HI.out.alloc _).alloc _, below_alloc (below_alloc HB.out _) _, keep_alloc (keep_alloc (KeepBut.refl w g none) _) _, ?_, ⟨none, 0, rfl, ⟨Nat.zero_le _, Nat.zero_le _⟩, fun hp => absurd hp (Nat.lt_irrefl 0)⟩, ⟨fun _ => [], ⟨none, 0, rfl, Nat.zero_le _, fun j hj => absurd hj (Nat.not_lt_zero j), fun hp => absurd hp (Nat.lt_irrefl 0)⟩, fun j hj => absurd hj (Nat.not_lt_zero j)⟩, ?_⟩
      · have := heap_alloc_new (w.alloc (.cells #[.int .i64 0, .string ⟨#[]⟩, .int .i64 0, .string ⟨#[]⟩, .bool false, .slice none 0 0, .slice none 0 0] 25)) (.cells #[.int .i64 5, .string ⟨#[]⟩, .int .i64 i, .string ⟨#[]⟩, .bool true, .slice none 0 0, .slice none 0 0] 25)
        rw [← htb, ← hrb]
        simpa using this
      · rw [← hrb]
        exact blk_alloc (heap_alloc_new w _) _⟩
    have HN : Aside0 ((g < w.heap.size ∧ w0.heap.size ≤ w.heap.size) ∧ rb ≠ tb ∧ w.heap.size ≤ rb ∧ w.heap.size ≤ tb) := ⟨⟨HGW.out, HB.out.size⟩, by omega, by omega, by omega⟩
    have HRT : Aside0 (rb < tb) := ⟨by omega⟩
    have n1 : ¬ rb = tb := by omega
    have n2 : ¬ tb = rb := by omega
    have n3 : ¬ g = tb := by have := HN.out.1.1; omega
    have n4 : ¬ tb = g := by have := HN.out.1.1; omega
    clear hW2 hrb htb HI HB HGW z1
    refine (spec_reading_next.calls g s i b c s1 i1 b1 w0 _ HX0.out.st HX0.out.below HC.out).mono ?_
    rintro e w3 ⟨rfl, hi, hb, hk⟩
    have HX := Aside0.mk (HX0.out.reader HN.out.1.1 HN.out.2.2.1 HN.out.2.2.2 hi hb hk)
    have hx := HX.out.box
    have t0 := (blk_cell hx 0).trans (rfl : _ = some (Value.int .i64 5))
    have f0 := blk_frozen hx 0
    clear hi hb hk HX0 HC hx
    go_upto_block 0 with (fail)
    go_cut [14] (fun x14 wc => ∃ (kind : Int) (str : ByteArray) (P : Bool) (K : List ByteArray) (I : List JT) (kv iv : Value) (s2 : ByteArray) (i2 : Int) (b2 : Bool), Aside0 (finF kind str P K I i s2 i2 b2 = some (T, s', i', b')) ∧ Aside0 (Boxes w0 w wc g rb tb kind i str P kv iv s2 i2 b2 K I))
    case first =>
      have h := H.out
      clear H
      by_cases c1 : c = 34
      · rw [if_pos c1] at h
        replace h := Option.bind_eq_some_iff.mp h
        obtain ⟨⟨t1, t2, s2, i2, b2⟩, hq, h⟩ := h
        have HQ := Aside0.mk hq
        have H' := Aside0.mk h
        have d1 : (c == 34) = true := beq_iff_eq.mpr c1
        have HX1 := Aside0.mk (HX.out.setKind HN.out.1.1 HN.out.1.2 HN.out.2.1 HN.out.2.2.2 3)
        clear hq h c1
        go_wp2_with fail
        refine (spec_reading_text.calls k g s1 i1 b1 t1 t2 s2 i2 b2 w0 _ HX1.out.st HX1.out.below HQ.out).mono ?_
        rintro e w4 ⟨rfl, hi, hb, hk⟩
        have HX2 := Aside0.mk (HX1.out.reader HN.out.1.1 HN.out.2.2.1 HN.out.2.2.2 hi hb hk)
        have hx := HX2.out.box
        have t3 := (blk_cell hx 3).trans (rfl : _ = some (Value.string ⟨#[]⟩))
        have f3 := blk_frozen hx 3
        have t4 := (blk_cell hx 4).trans (rfl : _ = some (Value.bool true))
        have f4 := blk_frozen hx 4
        clear hi hb hk HX HX1 HQ hx t0 f0
        go_wp2
        go_meet
        case rel => exact ⟨3, t1, t2, [], [], _, _, s2, i2, b2, H', ⟨(HX2.out.setStr HN.out.1.1 HN.out.1.2 HN.out.2.1 HN.out.2.2.2 t1).setPairs HN.out.1.1 HN.out.1.2 HN.out.2.1 HN.out.2.2.2 t2⟩⟩
      · rw [if_neg c1] at h
        have e1 : (c == 34) = false := beq_eq_false_iff_ne.mpr c1
        by_cases c2 : c = 116
        · rw [if_pos c2] at h
          replace h := Option.bind_eq_some_iff.mp h
          obtain ⟨⟨s2, i2, b2⟩, hq, h⟩ := h
          have HQ := Aside0.mk hq
          have H' := Aside0.mk h
          have d1 : (c == 116) = true := beq_iff_eq.mpr c2
          have HX1 := Aside0.mk (HX.out.setKind HN.out.1.1 HN.out.1.2 HN.out.2.1 HN.out.2.2.2 4)
          clear hq h c1 c2
          go_wp2_with fail
          refine (spec_reading_word.calls k g s1 i1 b1 (⟨#[116, 114, 117, 101]⟩ : ByteArray) s2 i2 b2 w0 _ HX1.out.st HX1.out.below HQ.out).mono ?_
          rintro e w4 ⟨rfl, hi, hb, hk⟩
          have HX2 := Aside0.mk (HX1.out.reader HN.out.1.1 HN.out.2.2.1 HN.out.2.2.2 hi hb hk)
          clear hi hb hk HX HX1 HQ t0 f0
          go_wp2
          go_meet
          case rel => exact ⟨4, ⟨#[]⟩, true, [], [], _, _, s2, i2, b2, H', HX2⟩
        · rw [if_neg c2] at h
          have e2 : (c == 116) = false := beq_eq_false_iff_ne.mpr c2
          by_cases c3 : c = 102
          · rw [if_pos c3] at h
            replace h := Option.bind_eq_some_iff.mp h
            obtain ⟨⟨s2, i2, b2⟩, hq, h⟩ := h
            have HQ := Aside0.mk hq
            have H' := Aside0.mk h
            have d1 : (c == 102) = true := beq_iff_eq.mpr c3
            have HX1 := Aside0.mk (HX.out.setKind HN.out.1.1 HN.out.1.2 HN.out.2.1 HN.out.2.2.2 1)
            clear hq h c1 c2 c3
            go_wp2_with fail
            refine (spec_reading_word.calls k g s1 i1 b1 (⟨#[102, 97, 108, 115, 101]⟩ : ByteArray) s2 i2 b2 w0 _ HX1.out.st HX1.out.below HQ.out).mono ?_
            rintro e w4 ⟨rfl, hi, hb, hk⟩
            have HX2 := Aside0.mk (HX1.out.reader HN.out.1.1 HN.out.2.2.1 HN.out.2.2.2 hi hb hk)
            clear hi hb hk HX HX1 HQ t0 f0
            go_wp2
            go_meet
            case rel => exact ⟨1, ⟨#[]⟩, true, [], [], _, _, s2, i2, b2, H', HX2⟩
          · rw [if_neg c3] at h
            have e3 : (c == 102) = false := beq_eq_false_iff_ne.mpr c3
            by_cases c4 : c = 110
            · rw [if_pos c4] at h
              replace h := Option.bind_eq_some_iff.mp h
              obtain ⟨⟨s2, i2, b2⟩, hq, h⟩ := h
              have HQ := Aside0.mk hq
              have H' := Aside0.mk h
              have d1 : (c == 110) = true := beq_iff_eq.mpr c4
              have HX1 := Aside0.mk (HX.out.setKind HN.out.1.1 HN.out.1.2 HN.out.2.1 HN.out.2.2.2 0)
              clear hq h c1 c2 c3 c4
              go_wp2_with fail
              refine (spec_reading_word.calls k g s1 i1 b1 (⟨#[110, 117, 108, 108]⟩ : ByteArray) s2 i2 b2 w0 _ HX1.out.st HX1.out.below HQ.out).mono ?_
              rintro e w4 ⟨rfl, hi, hb, hk⟩
              have HX2 := Aside0.mk (HX1.out.reader HN.out.1.1 HN.out.2.2.1 HN.out.2.2.2 hi hb hk)
              clear hi hb hk HX HX1 HQ t0 f0
              go_wp2
              go_meet
              case rel => exact ⟨0, ⟨#[]⟩, true, [], [], _, _, s2, i2, b2, H', HX2⟩
            · rw [if_neg c4] at h
              have e4 : (c == 110) = false := beq_eq_false_iff_ne.mpr c4
              by_cases c5 : c = 123
              · rw [if_pos c5] at h
                replace h := Option.bind_eq_some_iff.mp h
                obtain ⟨⟨K2, I2, P2, s2, i2, b2⟩, hq, h⟩ := h
                have HQ := Aside0.mk hq
                have H' := Aside0.mk h
                have d1 : (c == 123) = true := beq_iff_eq.mpr c5
                have HL := Aside0.mk (fun (w : World) => list_walk k (fun m hm => ih m (by omega)) g tb (.int .i64 5) (.string ⟨#[]⟩) (.int .i64 i) (.string ⟨#[]⟩) s1 i1 b1 125 true K2 I2 P2 s2 i2 b2 w0 w)
                clear hq h c1 c2 c3 c4 c5 t0 f0 ih
                go_wp2_with fail
                refine (HL.out _ HX.out.st HX.out.below HX.out.box (by have := HN.out; omega) (fun e => n3 e) HQ.out).mono ?_
                rintro e w4 ⟨rfl, kv2, iv2, hv⟩
                have HX2 := Aside0.mk (HX.out.list HN.out.1.1 HN.out.2.2.1 HN.out.2.1 HN.out.2.2.2 hv)
                clear hv HX HQ HL
                go_wp2
                go_meet
                case rel => exact ⟨5, ⟨#[]⟩, P2, K2, I2, kv2, iv2, s2, i2, b2, H', HX2⟩
              · rw [if_neg c5] at h
                have e5 : (c == 123) = false := beq_eq_false_iff_ne.mpr c5
                by_cases c6 : c = 91
                · rw [if_pos c6] at h
                  replace h := Option.bind_eq_some_iff.mp h
                  obtain ⟨⟨K2, I2, P2, s2, i2, b2⟩, hq, h⟩ := h
                  have HQ := Aside0.mk hq
                  have H' := Aside0.mk h
                  have d1 : (c == 91) = true := beq_iff_eq.mpr c6
                  have HL := Aside0.mk (fun (w : World) => list_walk k (fun m hm => ih m (by omega)) g tb (.int .i64 5) (.string ⟨#[]⟩) (.int .i64 i) (.string ⟨#[]⟩) s1 i1 b1 93 false K2 I2 P2 s2 i2 b2 w0 w)
                  clear hq h c1 c2 c3 c4 c5 c6 t0 f0 ih
                  go_wp2_with fail
                  refine (HL.out _ HX.out.st HX.out.below HX.out.box (by have := HN.out; omega) (fun e => n3 e) HQ.out).mono ?_
                  rintro e w4 ⟨rfl, kv2, iv2, hv⟩
                  have HX2 := Aside0.mk (HX.out.list HN.out.1.1 HN.out.2.2.1 HN.out.2.1 HN.out.2.2.2 hv)
                  clear hv HX HQ HL
                  go_wp2
                  go_meet
                  case rel => exact ⟨5, ⟨#[]⟩, P2, K2, I2, kv2, iv2, s2, i2, b2, H', HX2⟩
                · rw [if_neg c6] at h
                  have e6 : (c == 91) = false := beq_eq_false_iff_ne.mpr c6
                  replace h := Option.bind_eq_some_iff.mp h
                  obtain ⟨⟨s2, i2, b2⟩, hq, h⟩ := h
                  have HQ := Aside0.mk hq
                  have H' := Aside0.mk h
                  have HX1 := Aside0.mk (HX.out.setKind HN.out.1.1 HN.out.1.2 HN.out.2.1 HN.out.2.2.2 2)
                  clear hq h c1 c2 c3 c4 c5 c6
                  go_wp2_with fail
                  refine (spec_reading_number.calls k g s1 i1 b1 s2 i2 b2 w0 _ HX1.out.st HX1.out.below HQ.out).mono ?_
                  rintro e w4 ⟨rfl, hi, hb, hk⟩
                  have HX2 := Aside0.mk (HX1.out.reader HN.out.1.1 HN.out.2.2.1 HN.out.2.2.2 hi hb hk)
                  clear hi hb hk HX HX1 HQ t0 f0
                  go_wp2
                  go_meet
                  case rel => exact ⟨2, ⟨#[]⟩, true, [], [], _, _, s2, i2, b2, H', HX2⟩
    case rest =>
      clear H HX t0 f0
      obtain ⟨kind, str, P, K, I, kv, iv, s2, i2, b2, HF, HX⟩ := hcut
      have hz := HX.out.st.1
      have z0 := cellS45_0 hz
      have z1 := cellS45_1 hz
      have z2 := cellS45_2 hz
      have hx := HX.out.box
      have t0 := (blk_cell hx 0).trans (rfl : _ = some (Value.int .i64 kind))
      have t1 := (blk_cell hx 1).trans (rfl : _ = some (Value.string ⟨#[]⟩))
      have t2 := (blk_cell hx 2).trans (rfl : _ = some (Value.int .i64 i))
      have t3 := (blk_cell hx 3).trans (rfl : _ = some (Value.string str))
      have t4 := (blk_cell hx 4).trans (rfl : _ = some (Value.bool P))
      have f1 := blk_frozen hx 1
      obtain ⟨A, c7, hk, _⟩ := HX.out.keys
      obtain ⟨cs, ⟨A', c8, hi, _, _⟩, _⟩ := HX.out.items
      subst hk hi
      have t5 := (blk_cell hx 5).trans (rfl : _ = some (Value.slice A K.length c7))
      have t6 := (blk_cell hx 6).trans (rfl : _ = some (Value.slice A' I.length c8))
      have hy := HX.out.res
      have r0 := (blk_cell hy 0).trans (rfl : _ = some (Value.int .i64 0))
      have r1 := (blk_cell hy 1).trans (rfl : _ = some (Value.string ⟨#[]⟩))
      have r2 := (blk_cell hy 2).trans (rfl : _ = some (Value.int .i64 0))
      have r3 := (blk_cell hy 3).trans (rfl : _ = some (Value.string ⟨#[]⟩))
      have r4 := (blk_cell hy 4).trans (rfl : _ = some (Value.bool false))
      have r5 := (blk_cell hy 5).trans (rfl : _ = some (Value.slice none 0 0))
      have r6 := (blk_cell hy 6).trans (rfl : _ = some (Value.slice none 0 0))
      have q0 := blk_frozen hy 0
      have q1 := blk_frozen hy 1
      have q2 := blk_frozen hy 2
      have q3 := blk_frozen hy 3
      have q4 := blk_frozen hy 4
      have q5 := blk_frozen hy 5
      have q6 := blk_frozen hy 6
      clear hz hx hy
      have h := HF.out
      clear HF
      unfold finF at h
      cases b2 with
      | true =>
        rw [if_pos rfl] at h
        simp only [Option.some.injEq, Prod.mk.injEq] at h
        obtain ⟨rfl, rfl, rfl, rfl⟩ := h
        go_wp2
        refine bodyPost_ret (v := .agg #[.int .i64 kind, .string ⟨#[]⟩, .int .i64 i, .string str, .bool P, .slice A K.length c7, .slice A' I.length c8]) (by simp [results, Tryd.results17, go_sem, r0, r1, r2, r3, r4, r5, r6]) rfl ?_
        exact HX.out.done HN.out.1.1 HN.out.1.2 HN.out.2.2.1 HN.out.2.2.2 HRT.out (row7_below _ rb 0 _ _ _ _ _ _ _) (fun q h1 _ => row7_far _ rb 0 _ _ _ _ _ _ _ q h1)
      | false =>
        rw [if_neg (by decide)] at h
        by_cases e1 : 0 ≤ i
        · rw [if_pos e1] at h
          by_cases e2 : i ≤ i2
          · rw [if_pos e2] at h
            by_cases e3 : i2 ≤ (s2.size : Int)
            · rw [if_pos e3] at h
              simp only [Option.some.injEq, Prod.mk.injEq] at h
              obtain ⟨rfl, rfl, rfl, rfl⟩ := h
              have e4 : 0 ≤ i2 := by omega
              go_wp2_with fail
              go_region
              all_goals go_wp2
              refine bodyPost_ret (v := .agg #[.int .i64 kind, .string (s2.extract i.toNat i2.toNat), .int .i64 i, .string str, .bool P, .slice A K.length c7, .slice A' I.length c8]) (by simp [n1, n2, Ne.symm n1, Ne.symm n2, results, Tryd.results17, go_sem, r0, r1, r2, r3, r4, r5, r6]) rfl ?_
              have hB : Below 0 wc (row7 (wc.setCell ⟨tb, 1, none⟩ (.string (s2.extract i.toNat i2.toNat))) rb 0 (.int .i64 kind) (.string (s2.extract i.toNat i2.toNat)) (.int .i64 i) (.string str) (.bool P) (.slice A K.length c7) (.slice A' I.length c8)).drew := (((Below.refl 0 wc).setCell (p := ⟨tb, 1, none⟩) (Nat.zero_le _) _).trans (row7_below _ rb 0 _ _ _ _ _ _ _)).drew
              have hF : ∀ q, q ≠ rb → q ≠ tb → (row7 (wc.setCell ⟨tb, 1, none⟩ (.string (s2.extract i.toNat i2.toNat))) rb 0 (.int .i64 kind) (.string (s2.extract i.toNat i2.toNat)) (.int .i64 i) (.string str) (.bool P) (.slice A K.length c7) (.slice A' I.length c8)).drew.heap[q]? = wc.heap[q]? := fun q h1 h2 => by
                rw [drew_heap, row7_far _ rb 0 _ _ _ _ _ _ _ q h1]
                exact Below.heap_setCell _ ⟨tb, 1, none⟩ _ _ h2
              exact HX.out.done HN.out.1.1 HN.out.1.2 HN.out.2.2.1 HN.out.2.2.2 HRT.out hB hF
            · rw [if_neg e3] at h
              exact absurd h (by simp)
          · rw [if_neg e2] at h
            exact absurd h (by simp)
        · rw [if_neg e1] at h
          exact absurd h (by simp)
theorem tree_all : ∀ k, TreeOk k := fun k => Nat.strongRecOn k fun k ih => tree_walk k ih
end Go.Proofs.YtldfejbmdonaoaaDoor.Tt