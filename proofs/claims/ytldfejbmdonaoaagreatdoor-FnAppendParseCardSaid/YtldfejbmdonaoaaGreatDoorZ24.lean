/- Joined by a program of mine from texts of this claim: Tl, Tt. -/
import Derived.Test.YtldfejbmdonaoaaGreatDoorZ13
import Derived.Deep.RegionHeld3
import Derived.Deep.AppendLies
import Derived.Deep.RegionLaw
import Derived.RegionTactic
import Derived.BigRegion
namespace Go.Proofs.YtldfejbmdonaoaaGreatDoor.Tl
open Go.RowKit YtldfejbmdonaoaaGreatDoorW.PrintWords YtldfejbmdonaoaaGreatDoorW.PrintLast YtldfejbmdonaoaaGreatDoorW.PrintMore Tw Tf Sp
set_option linter.unusedVariables false
set_option linter.unusedSimpArgs false
def TreePost (w0 w : World) (g : Nat) (T : JT) (s : ByteArray) (i : Int) (b : Bool) (e : Ending) (w' : World) : Prop :=
  ∃ kv iv, e = .returned (.agg #[.int .i64 T.kind, .string T.raw, .int .i64 T.place, .string T.str, .bool T.pairs, kv, iv]) ∧ TreeAt w' (fun q => w.heap.size ≤ q) (cells7 T.kind T.raw T.place T.str T.pairs kv iv) T ∧
    IsS45 w0 w' g s i b ∧ Below w0.heap.size w0 w' ∧ KeepBut w w' g none
structure Kept2 (w w' : World) (g tb : Nat) : Prop where
  size : w.heap.size ≤ w'.heap.size
  block : ∀ q, q < w.heap.size → q ≠ g → q ≠ tb → w'.heap[q]? = w.heap[q]?
structure Inv (w0 w wr : World) (g tb : Nat) (c0 c1 c2 c3 : Value) (s : ByteArray) (i : Int) (b : Bool) (K : List ByteArray) (I : List JT) (P : Bool) (kv iv : Value) : Prop where
  st : IsS45 w0 wr g s i b
  below : Below w0.heap.size w0 wr
  box : wr.heap[tb]? = some (.cells #[c0, c1, c2, c3, .bool P, kv, iv] 25 (0, 0))
  keys : KeysRow wr w.heap.size kv K
  items : ItemsRow wr w.heap.size (fun q => w.heap.size ≤ q ∧ some q ≠ kv.ownBlock ∧ some q ≠ iv.ownBlock) iv I
  kept : Kept2 w wr g tb
section
variable {w0 w wr w1 : World} {g tb : Nat} {c0 c1 c2 c3 : Value} {s s1 : ByteArray} {i i1 : Int} {b b1 : Bool} {K : List ByteArray} {I : List JT} {P : Bool} {kv iv : Value}
theorem Inv.sz (h : Inv w0 w wr g tb c0 c1 c2 c3 s i b K I P kv iv) : w.heap.size ≤ wr.heap.size := h.kept.size
end
section
variable {w0 w wr w1 : World} {g tb : Nat} {c0 c1 c2 c3 : Value} {s s1 : ByteArray} {i i1 : Int} {b b1 : Bool} {K : List ByteArray} {I : List JT} {P : Bool} {kv iv : Value}
end
end Go.Proofs.YtldfejbmdonaoaaGreatDoor.Tl
namespace Go.Proofs.YtldfejbmdonaoaaGreatDoor.Tt
open Go.RowKit YtldfejbmdonaoaaGreatDoorW.PrintWords YtldfejbmdonaoaaGreatDoorW.PrintLast YtldfejbmdonaoaaGreatDoorW.PrintMore Tw Tf Tl Sp
set_option linter.unusedVariables false
set_option linter.unusedSimpArgs false
structure Boxes (w0 w wr : World) (g rb tb : Nat) (kind : Int) (i0 : Int) (str : ByteArray) (P : Bool) (kv iv : Value) (s : ByteArray) (i : Int) (b : Bool) (K : List ByteArray) (I : List JT) : Prop where
  st : IsS45 w0 wr g s i b
  below : Below w0.heap.size w0 wr
  keep : KeepBut w wr g none
  box : wr.heap[tb]? = some (.cells #[.int .i64 kind, .string ⟨#[]⟩, .int .i64 i0, .string str, .bool P, kv, iv] 25 (0, 0))
  keys : StrsAt wr (fun q => tb < q) kv K
  items : ∃ cs, CellsAt wr (fun q => tb < q) iv I.length cs ∧ ∀ j (h : j < I.length), TreeAt wr (fun q => tb < q) (cs j) I[j]
  res : wr.heap[rb]? = some (.cells #[.int .i64 0, .string ⟨#[]⟩, .int .i64 0, .string ⟨#[]⟩, .bool false, .slice none 0 0, .slice none 0 0] 25 (0, 0))
section
variable {w0 w wr w1 : World} {g rb tb : Nat} {kind i0 : Int} {str : ByteArray} {P : Bool} {kv iv : Value} {s s1 : ByteArray} {i i1 : Int} {b b1 : Bool} {K : List ByteArray} {I : List JT}
theorem Boxes.store {j : Nat} {u : Value} {kind' : Int} {str' : ByteArray} {P' : Bool} (h : Boxes w0 w wr g rb tb kind i0 str P kv iv s i b [] []) (hgw : g < w.heap.size) (h0 : w0.heap.size ≤ w.heap.size) (hr : rb ≠ tb) (ht : w.heap.size ≤ tb)
    (hbox : (wr.setCell ⟨tb, j, none⟩ u).heap[tb]? = some (.cells #[.int .i64 kind', .string ⟨#[]⟩, .int .i64 i0, .string str', .bool P', kv, iv] 25 (0, 0))) :
    Boxes w0 w (wr.setCell ⟨tb, j, none⟩ u) g rb tb kind' i0 str' P' kv iv s i b [] [] := by
  have far : ∀ q, q ≠ tb → (wr.setCell ⟨tb, j, none⟩ u).heap[q]? = wr.heap[q]? := fun q hq => Below.heap_setCell _ _ _ _ hq
  obtain ⟨A, c, hk, _⟩ := h.keys
  obtain ⟨cs, ⟨A', c', hc, h7, _⟩, _⟩ := h.items
  refine ⟨h.st.far (p := ⟨tb, j, none⟩) (by show g ≠ tb; omega) _, h.below.setCell (by show w0.heap.size ≤ tb; omega) _, ⟨by have := h.keep.1; simpa [World.setCell] using this, fun q hq hn hn2 => (far q (by omega)).trans (h.keep.2 q hq hn hn2)⟩, hbox, ⟨A, c, hk, fun hp => absurd hp (Nat.lt_irrefl 0)⟩, ⟨cs, ⟨A', c', hc, h7, fun hp => absurd hp (Nat.lt_irrefl 0)⟩, fun j hj => absurd hj (Nat.not_lt_zero j)⟩, by rw [far rb hr]; exact h.res⟩
theorem Boxes.list {kv1 iv1 : Value} {P1 : Bool} (h : Boxes w0 w wr g rb tb kind i0 str P kv iv s i b [] []) (hgw : g < w.heap.size) (hr : w.heap.size ≤ rb) (hrt : rb ≠ tb) (ht : w.heap.size ≤ tb)
    (hv : Inv w0 wr w1 g tb (.int .i64 kind) (.string ⟨#[]⟩) (.int .i64 i0) (.string str) s1 i1 b1 K I P1 kv1 iv1) : Boxes w0 w w1 g rb tb kind i0 str P1 kv1 iv1 s1 i1 b1 K I := by
  have hs := h.keep.1
  have htl : tb < wr.heap.size := blk_lt h.box
  obtain ⟨cs, hc, hT⟩ := hv.items.cells (fun q hq => hq.1)
  refine ⟨hv.st, hv.below, ⟨Nat.le_trans hs hv.kept.size, fun q hq hn hn2 => ?_⟩, hv.box, hv.keys.strs.move (fun q hq _ => ⟨Nat.lt_of_lt_of_le htl hq, rfl⟩), ⟨cs, hc.move (fun q hq _ => ⟨Nat.lt_of_lt_of_le htl hq, rfl⟩), fun j hj => (hT j hj).move (fun q hq _ => ⟨Nat.lt_of_lt_of_le htl hq, rfl⟩)⟩, ?_⟩
  · exact (hv.kept.block q (by omega) hn (by omega)).trans (h.keep.2 q hq hn hn2)
  · rw [hv.kept.block rb (blk_lt h.res) (by omega) hrt]
    exact h.res
theorem Boxes.done {w6 : World} {raw : ByteArray} (h : Boxes w0 w wr g rb tb kind i0 str P kv iv s i b K I) (hgw : g < w.heap.size) (h0 : w0.heap.size ≤ w.heap.size) (hr : w.heap.size ≤ rb) (ht : w.heap.size ≤ tb) (hrt : rb < tb)
    (hb : Below 0 wr w6) (hk : ∀ q, q ≠ rb → q ≠ tb → w6.heap[q]? = wr.heap[q]?) :
    TreePost w0 w g (.mk kind raw i0 str P K I) s i b (.returned (.agg #[.int .i64 kind, .string raw, .int .i64 i0, .string str, .bool P, kv, iv])) w6 := by
  have mv : ∀ q, tb < q → q < wr.heap.size → w.heap.size ≤ q ∧ w6.heap[q]? = wr.heap[q]? := fun q hq _ => ⟨by omega, hk q (by omega) (by omega)⟩
  obtain ⟨cs, hc, hT⟩ := h.items
  have keep : ∀ q, q < w.heap.size → w6.heap[q]? = wr.heap[q]? := fun q hq => hk q (by omega) (by omega)
  refine ⟨kv, iv, rfl, .mk kind raw i0 str P kv iv K I cs (h.keys.move mv) (hc.move mv) (fun j hj => (hT j hj).move mv), ⟨by rw [keep g hgw]; exact h.st.1, h.st.2⟩, ?_, ⟨Nat.le_trans h.keep.1 hb.size, fun q hq hn hn2 => (keep q hq).trans (h.keep.2 q hq hn hn2)⟩⟩
  exact ⟨hb.os.trans h.below.os, hb.tape.trans h.below.tape, hb.output.trans h.below.output, Nat.le_trans h.below.size hb.size, fun q hq => (keep q (by omega)).trans (h.below.block q hq)⟩
end
end Go.Proofs.YtldfejbmdonaoaaGreatDoor.Tt