/- Joined by a program of mine from texts of this claim: Tl. -/
import Derived.Test.YtldfejbmdonaoaaDoorV14
import Derived.Deep.RegionHeld3
import Derived.Deep.AppendLies
import Derived.Deep.RegionLaw
namespace Go.Proofs.YtldfejbmdonaoaaDoor.Tl
open Go.RowKit YtldfejbmdonaoaaDoorW.PrintWords YtldfejbmdonaoaaDoorW.PrintLast YtldfejbmdonaoaaDoorW.PrintMore Tw Tf Sp
set_option linter.unusedVariables false
set_option linter.unusedSimpArgs false
def TreePost (w0 w : World) (g : Nat) (T : JT) (s : ByteArray) (i : Int) (b : Bool) (e : Ending) (w' : World) : Prop :=
  ∃ kv iv, e = .returned (.agg #[.int .i64 T.kind, .string T.raw, .int .i64 T.place, .string T.str, .bool T.pairs, kv, iv]) ∧ TreeAt w' (fun q => w.heap.size ≤ q) (cells7 T.kind T.raw T.place T.str T.pairs kv iv) T ∧
    IsS45 w0 w' g s i b ∧ Below w0.heap.size w0 w' ∧ KeepBut w w' g none
def TreeOk (k : Nat) : Prop := ∀ (g : Nat) (s : ByteArray) (i : Int) (b : Bool) (T : JT) (s' : ByteArray) (i' : Int) (b' : Bool) (w0 w : World), IsS45 w0 w g s i b → Below w0.heap.size w0 w → treeF k s i b = some (T, s', i', b') →
  Calls Tryd.prog 17 #[.pointer (some ⟨g, 0, none⟩)] w (TreePost w0 w g T s' i' b')
structure Kept2 (w w' : World) (g tb : Nat) : Prop where
  size : w.heap.size ≤ w'.heap.size
  block : ∀ q, q < w.heap.size → q ≠ g → q ≠ tb → w'.heap[q]? = w.heap[q]?
structure Inv (w0 w wr : World) (g tb : Nat) (c0 c1 c2 c3 : Value) (s : ByteArray) (i : Int) (b : Bool) (K : List ByteArray) (I : List JT) (P : Bool) (kv iv : Value) : Prop where
  st : IsS45 w0 wr g s i b
  below : Below w0.heap.size w0 wr
  box : wr.heap[tb]? = some (.cells #[c0, c1, c2, c3, .bool P, kv, iv] 25 (0, 0))
  keys : KeysRow wr w.heap.size kv K
  items : ItemsRow wr w.heap.size (fun q => w.heap.size ≤ q ∧ some q ≠ kv.ownBlock ∧ some q ≠ iv.ownBlock) iv I
  kept : Kept2 w wr g tb
theorem grown_of {w0 wr w1 : World} {B g : Nat} (hr : Below B w0 wr) (h1 : Below B w0 w1) (hk : KeepBut wr w1 g none) : wr.grownBy w1 (some g) :=
  ⟨h1.os.trans hr.os.symm, h1.tape.trans hr.tape.symm, h1.output.trans hr.output.symm, hk.1, fun q hq hne => hk.2 q hq (fun e => hne (by rw [e])) (by simp)⟩
theorem grown_set (W : World) (g j : Nat) (u : Value) : W.grownBy (W.setCell ⟨g, j, none⟩ u) (some g) :=
  ⟨rfl, rfl, rfl, by simp [World.setCell], fun k _ hne => Below.heap_setCell _ _ _ _ (fun e => hne (by rw [e]))⟩
theorem own_not {w : World} {B : Nat} {e : TypeId} {size n : Nat} {v : Value} {xs : List Value} (h : w.ownsRow B e size v n xs) {g : Nat} (hg : g < B) : v.ownBlock = none ∨ v.ownBlock ≠ some g := by
  rcases hv : v.ownBlock with _ | q
  · exact .inl rfl
  · have := own_base h q hv
    exact .inr (by intro e; injection e with e; omega)
theorem not_own {w : World} {B : Nat} {e : TypeId} {size n : Nat} {v : Value} {xs : List Value} (h : w.ownsRow B e size v n xs) {g : Nat} (hg : g < B) : some g ≠ v.ownBlock := fun e => by
  have := own_base h g e.symm
  omega
section
variable {w0 w wr w1 : World} {g tb : Nat} {c0 c1 c2 c3 : Value} {s s1 : ByteArray} {i i1 : Int} {b b1 : Bool} {K : List ByteArray} {I : List JT} {P : Bool} {kv iv : Value}
theorem Inv.sz (h : Inv w0 w wr g tb c0 c1 c2 c3 s i b K I P kv iv) : w.heap.size ≤ wr.heap.size := h.kept.size
theorem Inv.itemsOwn (h : Inv w0 w wr g tb c0 c1 c2 c3 s i b K I P kv iv) : ∃ xs, wr.ownsRow w.heap.size 25 7 iv I.length xs := by
  obtain ⟨cs, _, ho, _⟩ := h.items
  exact ⟨_, ho⟩
theorem Inv.reader (h : Inv w0 w wr g tb c0 c1 c2 c3 s i b K I P kv iv) (hgw : g < w.heap.size) (htw : tb < w.heap.size) (hne : g ≠ tb)
    (hi : IsS45 w0 w1 g s1 i1 b1) (hb : Below w0.heap.size w0 w1) (hk : KeepBut wr w1 g none) : Inv w0 w w1 g tb c0 c1 c2 c3 s1 i1 b1 K I P kv iv := by
  have hg := grown_of h.below hb hk
  have hs := h.sz
  obtain ⟨xs, ho⟩ := h.itemsOwn
  have keep : ∀ q, q < wr.heap.size → q ≠ g → w1.heap[q]? = wr.heap[q]? := fun q hq hn => hk.2 q hq hn (by simp)
  refine ⟨hi, hb, ?_, h.keys.kept hg (own_not h.keys hgw), ?_, ⟨Nat.le_trans hs hk.1, fun q hq h1 h2 => (keep q (by omega) h1).trans (h.kept.block q hq h1 h2)⟩⟩
  · rw [keep tb (by omega) (Ne.symm hne)]
    exact h.box
  · exact h.items.move (fun q hq hlt => ⟨hq, keep q hlt (by have := hq.1; omega)⟩) (fun ys hy => hy.kept hg (own_not ho hgw))
theorem Inv.box_set (h : Inv w0 w wr g tb c0 c1 c2 c3 s i b K I P kv iv) (htw : tb < w.heap.size) (h0 : w0.heap.size ≤ tb) (hne : g ≠ tb) (P' : Bool) :
    Inv w0 w (wr.setCell ⟨tb, 4, none⟩ (.bool P')) g tb c0 c1 c2 c3 s i b K I P' kv iv := by
  have hg := grown_set wr tb 4 (.bool P')
  have hs := h.sz
  obtain ⟨xs, ho⟩ := h.itemsOwn
  have keep : ∀ q, q ≠ tb → (wr.setCell ⟨tb, 4, none⟩ (.bool P')).heap[q]? = wr.heap[q]? := fun q hn => Below.heap_setCell _ _ _ _ hn
  refine ⟨?_, h.below.setCell h0 _, ?_, h.keys.kept hg (own_not h.keys htw), ?_, ⟨by simpa [World.setCell] using hs, fun q hq h1 h2 => (keep q h2).trans (h.kept.block q hq h1 h2)⟩⟩
  · exact h.st.far (p := ⟨tb, 4, none⟩) hne _
  · simpa using blk_set h.box 4 (.bool P')
  · exact h.items.move (fun q hq hlt => ⟨hq, keep q (by have := hq.1; omega)⟩) (fun ys hy => hy.kept hg (own_not ho htw))
theorem Inv.key {kv1 : Value} {x : ByteArray} (h : Inv w0 w wr g tb c0 c1 c2 c3 s i b K I P kv iv) (hgw : g < w.heap.size) (htw : tb < w.heap.size) (h0 : w0.heap.size ≤ w.heap.size) (h0t : w0.heap.size ≤ tb) (hne : g ≠ tb)
    (ho1 : w1.ownsRow w.heap.size 9 1 kv1 (pw_strs K ++ [Value.string x]).length (pw_strs K ++ [Value.string x])) (hg : wr.grownBy w1 kv.ownBlock) (hat : kv1.ownBlock = kv.ownBlock ∨ ∃ q, kv1.ownBlock = some q ∧ wr.heap.size ≤ q) :
    Inv w0 w (w1.setCell ⟨tb, 5, none⟩ kv1) g tb c0 c1 c2 c3 s i b (K ++ [x]) I P kv1 iv := by
  have hs := h.sz
  obtain ⟨xs, ho⟩ := h.itemsOwn
  have hg2 := grown_set w1 tb 5 kv1
  have hkb : ∀ q, kv.ownBlock = some q → w.heap.size ≤ q := own_base h.keys
  have hnk : some tb ≠ kv.ownBlock := not_own h.keys htw
  have hgk : some g ≠ kv.ownBlock := not_own h.keys hgw
  have hik : iv.ownBlock = none ∨ iv.ownBlock ≠ kv.ownBlock := own_type_ne ho h.keys (by decide)
  have keep : ∀ q, q < wr.heap.size → some q ≠ kv.ownBlock → q ≠ tb → (w1.setCell ⟨tb, 5, none⟩ kv1).heap[q]? = wr.heap[q]? := fun q hq hn ht => (Below.heap_setCell _ _ _ _ ht).trans (hg.block q hq hn)
  have hsz1 : wr.heap.size ≤ (w1.setCell ⟨tb, 5, none⟩ kv1).heap.size := by simpa [World.setCell] using hg.size
  refine ⟨?_, ?_, ?_, ?_, ?_, ⟨Nat.le_trans hs hsz1, fun q hq h1 h2 => ?_⟩⟩
  · exact (h.st.grown hg hgk).far (p := ⟨tb, 5, none⟩) hne _
  · exact (h.below.grown hg (by omega) (fun q hq => by have := hkb q hq; omega)).setCell h0t _
  · have hb1 := blk_grown h.box hg hnk
    simpa using blk_set hb1 5 kv1
  · have : (K ++ [x]).length = (pw_strs K ++ [Value.string x]).length := by simp [pw_strs]
    unfold KeysRow
    rw [this]
    have e : pw_strs (K ++ [x]) = pw_strs K ++ [Value.string x] := by simp [pw_strs]
    rw [e]
    exact own_other ho1 hg2 (own_not ho1 htw)
  · refine h.items.move (fun q hq hlt => ⟨⟨hq.1, ?_, hq.2.2⟩, keep q hlt hq.2.1 (by have := hq.1; omega)⟩) (fun ys hy => own_other (own_other hy hg hik) hg2 (own_not ho htw))
    · rcases hat with hat | ⟨p, hp, hle⟩
      · rw [hat]; exact hq.2.1
      · rw [hp]
        intro e
        injection e with e
        omega
  · exact (keep q (by omega) (fun e => by have := hkb q e.symm; omega) h2).trans (h.kept.block q hq h1 h2)
theorem Inv.item {w6 : World} {iv1 : Value} {T : JT} {c : List Value} {cs : Nat → List Value} (h : Inv w0 w wr g tb c0 c1 c2 c3 s i b K I P kv iv) (hgw : g < w.heap.size) (htw : tb < w.heap.size) (h0 : w0.heap.size ≤ w.heap.size) (h0t : w0.heap.size ≤ tb) (hne : g ≠ tb)
    (h7 : ∀ j, j < I.length → (cs j).length = 7) (ht : ∀ j (h : j < I.length), TreeAt wr (fun q => w.heap.size ≤ q ∧ some q ≠ kv.ownBlock ∧ some q ≠ iv.ownBlock) (cs j) I[j])
    (hT : TreeAt wr (fun q => w.heap.size ≤ q ∧ some q ≠ kv.ownBlock ∧ some q ≠ iv.ownBlock) c T) (hc : c.length = 7)
    (hbel : Below 0 wr w6) (keep : ∀ q, q < wr.heap.size → some q ≠ iv.ownBlock → q ≠ tb → w6.heap[q]? = wr.heap[q]?)
    (hbox : w6.heap[tb]? = some (.cells #[c0, c1, c2, c3, .bool P, kv, iv1] 25 (0, 0)))
    (hown : w6.ownsRow w.heap.size 25 7 iv1 (I.length + 1) ((List.range I.length).flatMap cs ++ c))
    (hat : iv1.ownBlock = iv.ownBlock ∨ ∃ q, iv1.ownBlock = some q ∧ wr.heap.size ≤ q) :
    Inv w0 w w6 g tb c0 c1 c2 c3 s i b K (I ++ [T]) P kv iv1 := by
  have hs := h.sz
  obtain ⟨xs, ho⟩ := h.itemsOwn
  have hib : ∀ q, iv.ownBlock = some q → w.heap.size ≤ q := own_base ho
  have hki : kv.ownBlock = none ∨ kv.ownBlock ≠ iv.ownBlock := own_type_ne h.keys ho (by decide)
  have hz := h.st.1
  have kg : w6.heap[g]? = wr.heap[g]? := keep g (by omega) (not_own ho hgw) hne
  refine ⟨⟨by rw [kg]; exact hz, h.st.2⟩, ?_, hbox, ?_, ?_, ⟨Nat.le_trans hs hbel.size, fun q hq h1 h2 => ?_⟩⟩
  · refine ⟨hbel.os.trans h.below.os, hbel.tape.trans h.below.tape, hbel.output.trans h.below.output, Nat.le_trans h.below.size hbel.size, fun q hq => ?_⟩
    rw [keep q (by omega) (fun e => by have := hib q e.symm; omega) (by omega)]
    exact h.below.block q hq
  · refine own_keep h.keys fun q hq => ?_
    have hq1 := own_base h.keys q hq
    refine keep q (own_lt h.keys q hq) (fun e => ?_) (by omega)
    rcases hki with hki | hki
    · rw [hki] at hq; cases hq
    · exact hki (by rw [hq, e])
  · refine items_snoc h7 ht (fun q hq hlt => ⟨⟨hq.1, hq.2.1, ?_⟩, keep q hlt hq.2.2 (by have := hq.1; omega)⟩) hT hc hown
    rcases hat with hat | ⟨p, hp, hle⟩
    · rw [hat]; exact hq.2.2
    · rw [hp]
      intro e
      injection e with e
      omega
  · exact (keep q (by omega) (fun e => by have := hib q e.symm; omega) h2).trans (h.kept.block q hq h1 h2)
def row7 (W : World) (gg m : Nat) (v0 v1 v2 v3 v4 v5 v6 : Value) : World :=
  ((((((W.setCell ⟨gg, m, none⟩ v0).setCell ⟨gg, m + 1, none⟩ v1).setCell ⟨gg, m + 2, none⟩ v2).setCell ⟨gg, m + 3, none⟩ v3).setCell ⟨gg, m + 4, none⟩ v4).setCell ⟨gg, m + 5, none⟩ v5).setCell ⟨gg, m + 6, none⟩ v6
theorem row7_far (W : World) (gg m : Nat) (v0 v1 v2 v3 v4 v5 v6 : Value) (q : Nat) (hq : q ≠ gg) : (row7 W gg m v0 v1 v2 v3 v4 v5 v6).heap[q]? = W.heap[q]? := by
  unfold row7
  repeat rw [Below.heap_setCell _ _ _ _ hq]
theorem row7_below (W : World) (gg m : Nat) (v0 v1 v2 v3 v4 v5 v6 : Value) : Below 0 W (row7 W gg m v0 v1 v2 v3 v4 v5 v6) := by
  unfold row7
  exact ((((((((Below.refl 0 W).setCell (Nat.zero_le _) _).setCell (Nat.zero_le _) _).setCell (Nat.zero_le _) _).setCell (Nat.zero_le _) _).setCell (Nat.zero_le _) _).setCell (Nat.zero_le _) _).setCell (Nat.zero_le _) _)
theorem set7 {xs : List Value} {m : Nat} (hl : xs.length = m) (z0 z1 z2 z3 z4 z5 z6 v0 v1 v2 v3 v4 v5 v6 : Value) :
    (((((((xs ++ [z0, z1, z2, z3, z4, z5, z6]).set m v0).set (m + 1) v1).set (m + 2) v2).set (m + 3) v3).set (m + 4) v4).set (m + 5) v5).set (m + 6) v6 = xs ++ [v0, v1, v2, v3, v4, v5, v6] := by
  subst hl
  simp [List.set_append]
theorem row7_own {W : World} {B gg cap n : Nat} {xs : List Value} {z0 z1 z2 z3 z4 z5 z6 : Value} (h : W.ownsRow B 25 7 (.slice (some ⟨gg, 0, none⟩) (n + 1) cap) (n + 1) (xs ++ [z0, z1, z2, z3, z4, z5, z6])) (hl : xs.length = n * 7) (v0 v1 v2 v3 v4 v5 v6 : Value) :
    (row7 W gg (n * 7) v0 v1 v2 v3 v4 v5 v6).ownsRow B 25 7 (.slice (some ⟨gg, 0, none⟩) (n + 1) cap) (n + 1) (xs ++ [v0, v1, v2, v3, v4, v5, v6]) := by
  have h0 := (h.stored (n * 7) v0).1
  have h1 := (h0.stored (n * 7 + 1) v1).1
  have h2 := (h1.stored (n * 7 + 2) v2).1
  have h3 := (h2.stored (n * 7 + 3) v3).1
  have h4 := (h3.stored (n * 7 + 4) v4).1
  have h5 := (h4.stored (n * 7 + 5) v5).1
  have h6 := (h5.stored (n * 7 + 6) v6).1
  rw [set7 hl] at h6
  exact h6
theorem item_done {W3 w5 w6 : World} {iv1 : Value} {gg xb : Nat} {T : JT} {X : Array Value} {Z : Obj} {c : List Value} {cs : Nat → List Value} (h : Inv w0 w wr g tb c0 c1 c2 c3 s i b K I P kv iv) (hgw : g < w.heap.size) (htw : tb < w.heap.size) (h0 : w0.heap.size ≤ w.heap.size) (h0t : w0.heap.size ≤ tb) (hne : g ≠ tb)
    (h7 : ∀ j, j < I.length → (cs j).length = 7) (ht : ∀ j (h : j < I.length), TreeAt wr (fun q => w.heap.size ≤ q ∧ some q ≠ kv.ownBlock ∧ some q ≠ iv.ownBlock) (cs j) I[j])
    (hT : TreeAt wr (fun q => w.heap.size ≤ q ∧ some q ≠ kv.ownBlock ∧ some q ≠ iv.ownBlock) c T) (hc : c.length = 7)
    (hW3 : wr.alloc (.cells X 25) = W3) (hxb : wr.heap.size = xb) (hX : X[4]? = some (.bool T.pairs))
    (hg5 : ((W3.alloc Z).drew).grownBy w5 iv.ownBlock) (hat5 : iv.ownBlock = some gg ∨ gg = W3.heap.size + 1) (hiv1 : iv1.ownBlock = some gg)
    (hb6 : Below 0 w5 w6) (hk6 : ∀ q, q ≠ gg → q ≠ tb → w6.heap[q]? = w5.heap[q]?)
    (hbox : w6.heap[tb]? = some (.cells #[c0, c1, c2, c3, .bool P, kv, iv1] 25 (0, 0)))
    (hown : w6.ownsRow w.heap.size 25 7 iv1 (I.length + 1) ((List.range I.length).flatMap cs ++ c)) :
    w6.cell? ⟨xb, 4, none⟩ = some (.bool T.pairs) ∧ Inv w0 w w6 g tb c0 c1 c2 c3 s i b K (I ++ [T]) P kv iv1 := by
  have hs := h.sz
  obtain ⟨xs, ho⟩ := h.itemsOwn
  have hil : ∀ q, iv.ownBlock = some q → q < wr.heap.size := own_lt ho
  have hz3 : W3.heap.size = wr.heap.size + 1 := by rw [← hW3]; simp
  have hgg : ∀ q, q ≤ wr.heap.size → some q ≠ iv.ownBlock → q ≠ gg := fun q hq hn e => by
    subst e
    rcases hat5 with hat | hat
    · exact hn hat.symm
    · omega
  have keep3 : ∀ q, q ≤ wr.heap.size → some q ≠ iv.ownBlock → q ≠ tb → w6.heap[q]? = W3.heap[q]? := fun q hq hn hqt => by
    rw [hk6 q (hgg q hq hn) hqt, hg5.block q (by show q < (W3.alloc Z).heap.size; simp; omega) hn]
    exact Below.heap_alloc W3 Z q (by omega)
  have keep : ∀ q, q < wr.heap.size → some q ≠ iv.ownBlock → q ≠ tb → w6.heap[q]? = wr.heap[q]? := fun q hq hn hqt => by
    rw [keep3 q (by omega) hn hqt, ← hW3]
    exact Below.heap_alloc wr _ q hq
  have hbel : Below 0 wr w6 := by
    have e1 : Below 0 wr W3 := by rw [← hW3]; exact (Below.refl 0 wr).alloc (Nat.zero_le _) _
    have e2 : Below 0 wr ((W3.alloc Z).drew) := (e1.alloc (Nat.zero_le _) Z).drew
    exact (e2.grown hg5 (Nat.zero_le _) (fun _ _ => Nat.zero_le _)).trans hb6
  refine ⟨?_, h.item hgw htw h0 h0t hne h7 ht hT hc hbel keep hbox hown ?_⟩
  · have hn : W3.heap[xb]? = some (.cells X 25 (0, 0)) := by rw [← hW3, ← hxb]; exact heap_alloc_new _ _
    have hx6 : w6.heap[xb]? = some (.cells X 25 (0, 0)) := by
      rw [keep3 xb (by omega) (fun e => by have := hil xb e.symm; omega) (by have := h.sz; omega)]
      exact hn
    rw [blk_cell hx6 4]
    exact hX
  · rcases hat5 with hat | hat
    · exact .inl (by rw [hiv1, hat])
    · exact .inr ⟨gg, hiv1, by omega⟩
theorem Inv.init (hi : IsS45 w0 w g s i b) (hb : Below w0.heap.size w0 w) (hx : w.heap[tb]? = some (.cells #[c0, c1, c2, c3, .bool true, .slice none 0 0, .slice none 0 0] 25 (0, 0))) :
    Inv w0 w w g tb c0 c1 c2 c3 s i b [] [] true (.slice none 0 0) (.slice none 0 0) :=
  ⟨hi, hb, hx, KeysRow.nil _ _, ItemsRow.nil _ _ _, ⟨Nat.le_refl _, fun _ _ _ _ => rfl⟩⟩
end
theorem box_in {wr w1 : World} {tb : Nat} {c0 c1 c2 c3 kv iv : Value} {P : Bool} {row : Option Nat} (h : wr.heap[tb]? = some (.cells #[c0, c1, c2, c3, .bool P, kv, iv] 25 (0, 0))) (hg : wr.grownBy w1 row) (hn : some tb ≠ row) :
    (w1.cell? ⟨tb, 4, none⟩ = some (.bool P) ∧ w1.cell? ⟨tb, 5, none⟩ = some kv ∧ w1.cell? ⟨tb, 6, none⟩ = some iv) ∧ w1.frozen? ⟨tb, 4, none⟩ = false ∧ w1.frozen? ⟨tb, 5, none⟩ = false ∧ w1.frozen? ⟨tb, 6, none⟩ = false := by
  have hb := blk_grown h hg hn
  exact ⟨⟨(blk_cell hb 4).trans rfl, (blk_cell hb 5).trans rfl, (blk_cell hb 6).trans rfl⟩, blk_frozen hb 4, blk_frozen hb 5, blk_frozen hb 6⟩
theorem own_slice3 {w : World} {base n : Nat} {e : TypeId} {size : Nat} {v : Value} {xs : List Value} (h : w.ownsRow base e size v n xs) : ∃ A m c, v = .slice A m c := by
  obtain ⟨A, c, rfl⟩ := own_slice h
  exact ⟨A, n, c, rfl⟩
theorem tree_slices {w : World} {ok : Nat → Prop} {k : Int} {r : ByteArray} {a : Int} {s : ByteArray} {p : Bool} {kv iv : Value} {T : JT} (h : TreeAt w ok (cells7 k r a s p kv iv) T) :
    ∃ A m c A' m' c', kv = .slice A m c ∧ iv = .slice A' m' c' := by
  generalize hcs : cells7 k r a s p kv iv = cs at h
  cases h with
  | mk k' r' a' s' p' kv' iv' K I cs hk hc hi =>
    simp only [cells7, List.cons.injEq, Value.int.injEq, Value.string.injEq, Value.bool.injEq, and_true, true_and] at hcs
    obtain ⟨_, _, _, _, _, rfl, rfl⟩ := hcs
    obtain ⟨A, c, rfl, _⟩ := hk
    obtain ⟨A', c', rfl, _⟩ := hc
    exact ⟨_, _, _, _, _, _, rfl, rfl⟩
theorem box5 {W3 w5 : World} {tb : Nat} {o Z : Obj} {row : Option Nat} (hx : W3.heap[tb]? = some o) (hg : ((W3.alloc Z).drew).grownBy w5 row) (hn : some tb ≠ row) : w5.heap[tb]? = some o :=
  (hg.block tb (blk_lt (blk_alloc hx Z)) hn).trans (blk_alloc hx Z)
section
variable {w0 w wr w1 : World} {g tb : Nat} {c0 c1 c2 c3 : Value} {s s1 : ByteArray} {i i1 : Int} {b b1 : Bool} {K : List ByteArray} {I : List JT} {P : Bool} {kv iv : Value}
theorem item_orders {W3 w5 : World} {gg xb cap : Nat} {T : JT} {X : Array Value} {Z : Obj} {cs : Nat → List Value} {xs : List Value} {z0 z1 z2 z3 z4 z5 z6 v0 v1 v2 v3 v4 v5 v6 : Value} (h : Inv w0 w wr g tb c0 c1 c2 c3 s i b K I P kv iv) (hgw : g < w.heap.size) (htw : tb < w.heap.size) (h0 : w0.heap.size ≤ w.heap.size) (h0t : w0.heap.size ≤ tb) (hne : g ≠ tb)
    (h7 : ∀ j, j < I.length → (cs j).length = 7) (ht : ∀ j (h : j < I.length), TreeAt wr (fun q => w.heap.size ≤ q ∧ some q ≠ kv.ownBlock ∧ some q ≠ iv.ownBlock) (cs j) I[j]) (exs : (List.range I.length).flatMap cs = xs)
    (hT : TreeAt wr (fun q => w.heap.size ≤ q ∧ some q ≠ kv.ownBlock ∧ some q ≠ iv.ownBlock) [v0, v1, v2, v3, v4, v5, v6] T)
    (hW3 : wr.alloc (.cells X 25) = W3) (hxb : wr.heap.size = xb) (hX : X[4]? = some (.bool T.pairs))
    (hg5 : ((W3.alloc Z).drew).grownBy w5 iv.ownBlock) (hat5 : iv.ownBlock = some gg ∨ gg = W3.heap.size + 1)
    (hown5 : w5.ownsRow w.heap.size 25 7 (.slice (some ⟨gg, 0, none⟩) (I.length + 1) cap) (I.length + 1) (xs ++ [z0, z1, z2, z3, z4, z5, z6])) :
    (((row7 w5 gg (I.length * 7) v0 v1 v2 v3 v4 v5 v6).setCell ⟨tb, 6, none⟩ (.slice (some ⟨gg, 0, none⟩) (I.length + 1) cap)).cell? ⟨xb, 4, none⟩ = some (.bool T.pairs) ∧
      Inv w0 w ((row7 w5 gg (I.length * 7) v0 v1 v2 v3 v4 v5 v6).setCell ⟨tb, 6, none⟩ (.slice (some ⟨gg, 0, none⟩) (I.length + 1) cap)) g tb c0 c1 c2 c3 s i b K (I ++ [T]) P kv (.slice (some ⟨gg, 0, none⟩) (I.length + 1) cap)) ∧
    ((row7 (w5.setCell ⟨tb, 6, none⟩ (.slice (some ⟨gg, 0, none⟩) (I.length + 1) cap)) gg (I.length * 7) v0 v1 v2 v3 v4 v5 v6).cell? ⟨xb, 4, none⟩ = some (.bool T.pairs) ∧
      Inv w0 w (row7 (w5.setCell ⟨tb, 6, none⟩ (.slice (some ⟨gg, 0, none⟩) (I.length + 1) cap)) gg (I.length * 7) v0 v1 v2 v3 v4 v5 v6) g tb c0 c1 c2 c3 s i b K (I ++ [T]) P kv (.slice (some ⟨gg, 0, none⟩) (I.length + 1) cap)) := by
  obtain ⟨ys, ho⟩ := h.itemsOwn
  have hl : xs.length = I.length * 7 := by rw [← exs]; exact (flat_at cs _ h7).1
  have hgg : w.heap.size ≤ gg := own_base hown5 gg rfl
  have hgt : tb ≠ gg := by omega
  have hb3 : W3.heap[tb]? = some (.cells #[c0, c1, c2, c3, .bool P, kv, iv] 25 (0, 0)) := by rw [← hW3]; exact blk_alloc h.box _
  have hb5 := box5 hb3 hg5 (not_own ho htw)
  constructor
  · refine item_done h hgw htw h0 h0t hne h7 ht hT rfl hW3 hxb hX hg5 hat5 rfl ?_ ?_ ?_ ?_
    · exact (row7_below _ _ _ _ _ _ _ _ _ _).setCell (Nat.zero_le _) _
    · exact fun q h1 h2 => (Below.heap_setCell _ _ _ _ h2).trans (row7_far _ _ _ _ _ _ _ _ _ _ q h1)
    · have := blk_set ((row7_far w5 gg (I.length * 7) v0 v1 v2 v3 v4 v5 v6 tb hgt).trans hb5) 6 (.slice (some ⟨gg, 0, none⟩) (I.length + 1) cap)
      simpa using this
    · have := row7_own hown5 hl v0 v1 v2 v3 v4 v5 v6
      rw [exs]
      exact own_other this (grown_set _ tb 6 _) (own_not this htw)
  · refine item_done h hgw htw h0 h0t hne h7 ht hT rfl hW3 hxb hX hg5 hat5 rfl ?_ ?_ ?_ ?_
    · exact ((Below.refl 0 w5).setCell (Nat.zero_le _) _).trans (row7_below _ _ _ _ _ _ _ _ _ _)
    · exact fun q h1 h2 => (row7_far _ _ _ _ _ _ _ _ _ _ q h1).trans (Below.heap_setCell _ _ _ _ h2)
    · rw [row7_far _ _ _ _ _ _ _ _ _ _ tb hgt]
      simpa using blk_set hb5 6 (.slice (some ⟨gg, 0, none⟩) (I.length + 1) cap)
    · rw [exs]
      exact row7_own (own_other hown5 (grown_set w5 tb 6 _) (own_not hown5 htw)) hl v0 v1 v2 v3 v4 v5 v6
end
theorem row_tail {w5 : World} {B gg cap n : Nat} {xs : List Value} {z0 z1 z2 z3 z4 z5 z6 : Value} (h : w5.ownsRow B 25 7 (.slice (some ⟨gg, 0, none⟩) (n + 1) cap) (n + 1) (xs ++ [z0, z1, z2, z3, z4, z5, z6])) (hl : xs.length = n * 7) :
    (w5.cell? ⟨gg, n * 7, none⟩ = some z0 ∧ w5.cell? ⟨gg, n * 7 + 1, none⟩ = some z1 ∧ w5.cell? ⟨gg, n * 7 + 2, none⟩ = some z2 ∧ w5.cell? ⟨gg, n * 7 + 3, none⟩ = some z3 ∧ w5.cell? ⟨gg, n * 7 + 4, none⟩ = some z4 ∧ w5.cell? ⟨gg, n * 7 + 5, none⟩ = some z5 ∧ w5.cell? ⟨gg, n * 7 + 6, none⟩ = some z6) ∧
    (w5.frozen? ⟨gg, n * 7, none⟩ = false ∧ w5.frozen? ⟨gg, n * 7 + 1, none⟩ = false ∧ w5.frozen? ⟨gg, n * 7 + 2, none⟩ = false ∧ w5.frozen? ⟨gg, n * 7 + 3, none⟩ = false ∧ w5.frozen? ⟨gg, n * 7 + 4, none⟩ = false ∧ w5.frozen? ⟨gg, n * 7 + 5, none⟩ = false ∧ w5.frozen? ⟨gg, n * 7 + 6, none⟩ = false) := by
  have hc : ∀ j u, ([z0, z1, z2, z3, z4, z5, z6] : List Value)[j]? = some u → w5.cell? ⟨gg, n * 7 + j, none⟩ = some u := fun j u hj => by
    have := h.cells (g := gg) rfl (n * 7 + j) u (by rw [List.getElem?_append_right (by omega), hl, Nat.add_sub_cancel_left]; exact hj)
    rwa [add_plain] at this
  have hf : ∀ j, w5.frozen? ⟨gg, j, none⟩ = false := fun j => by
    rcases h.2 with ⟨h', _⟩ | ⟨g', cap', cur, h', _, hh, _⟩
    · cases h'
    · injection h' with h'
      injection h' with h'
      injection h' with h'
      subst h'
      simp [World.frozen?, hh]
  exact ⟨⟨hc 0 _ rfl, hc 1 _ rfl, hc 2 _ rfl, hc 3 _ rfl, hc 4 _ rfl, hc 5 _ rfl, hc 6 _ rfl⟩, hf _, hf _, hf _, hf _, hf _, hf _, hf _⟩
theorem info_str : (Tryd.prog.info? 9).map (fun i => (i.zero, i.size, i.bytes)) = some (some (.string ⟨#[]⟩), 1, 16) := by kernel_rfl
theorem info_tree : (Tryd.prog.info? 25).map (fun i => (i.zero, i.size, i.bytes)) = some (some (.agg #[.int .i64 0, .string ⟨#[]⟩, .int .i64 0, .string ⟨#[]⟩, .bool false, .slice none 0 0, .slice none 0 0]), 7, 104) := by kernel_rfl
theorem keys_len {w : World} {B : Nat} {kv : Value} {K : List ByteArray} (h : KeysRow w B kv K) : w.ownsRow B 9 1 kv (pw_strs K).length (pw_strs K) := by
  have : (pw_strs K).length = K.length := by simp [pw_strs]
  rw [this]
  exact h
set_option maxRecDepth 100000 in
set_option maxHeartbeats 8000000 in
theorem list_walk (k : Nat) (ih : ∀ m, m < k → TreeOk m) (g tb : Nat) (c0 c1 c2 c3 : Value) (s : ByteArray) (i : Int) (b : Bool) (endc : Int) (ks : Bool) (K : List ByteArray) (I : List JT) (P : Bool) (s' : ByteArray) (i' : Int) (b' : Bool) (w0 w : World)
    (hI : IsS45 w0 w g s i b) (hB : Below w0.heap.size w0 w) (hbox : w.heap[tb]? = some (.cells #[c0, c1, c2, c3, .bool true, .slice none 0 0, .slice none 0 0] 25 (0, 0))) (htb : w0.heap.size ≤ tb) (hne : g ≠ tb)
    (h : listF k s i b endc ks = some (K, I, P, s', i', b')) :
    Calls Tryd.prog 28 #[.pointer (some ⟨g, 0, none⟩), .pointer (some ⟨tb, 0, none⟩), .int .u8 endc, .bool ks] w fun e w' => e = .returned (.tuple #[]) ∧ ∃ kv iv, Inv w0 w w' g tb c0 c1 c2 c3 s' i' b' K I P kv iv := by
  cases k with
  | zero => exact absurd h (by simp [listF])
  | succ k =>
    simp only [listF] at h
    replace h := Option.bind_eq_some_iff.mp h
    obtain ⟨⟨s1, i1, b1⟩, hq, h⟩ := h
    replace h := Option.bind_eq_some_iff.mp h
    obtain ⟨⟨c, s2, i2, b2⟩, hc, h⟩ := h
    dsimp only at hc h
    have HQ := Aside0.mk hq
    have HC := Aside0.mk hc
    have hgw := hI.lt
    have htw := blk_lt hbox
    have HV := Aside0.mk ((Inv.init hI hB hbox).reader hgw htw hne (hI.set_1 (wrap64 (i + 1))) (below_set hB hI.ge) ((KeepBut.refl w g none).set_ 1 (.int .i64 (wrap64 (i + 1)))))
    have HG := Aside0.mk (And.intro (And.intro hgw htw) (And.intro hne htb))
    have hne' : ¬ tb = g := fun e => hne e.symm
    have hz := hI.1
    have z1 := cellS45_1 hz
    have y1 := blk_frozen hz 1
    have HW0 := Aside0.mk hB.size
    clear hq hc hI hB hbox htb hz hgw htw
    go_enter Tryd.func28, Tryd.ntmps28
    go_wp2_with fail
    refine (spec_reading_blank.calls k g s (wrap64 (i + 1)) b s1 i1 b1 w0 _ HV.out.st HV.out.below HQ.out).mono ?_
    rintro e w1 ⟨rfl, hi, hb, hk⟩
    have HV1 := Aside0.mk (HV.out.reader HG.out.1.1 HG.out.1.2 HG.out.2.1 hi hb hk)
    clear hi hb hk HV HQ
    go_wp2_with fail
    refine (spec_reading_next.calls g s1 i1 b1 c s2 i2 b2 w0 _ HV1.out.st HV1.out.below HC.out).mono ?_
    rintro e w2 ⟨rfl, hi, hb, hk⟩
    have HV2 := Aside0.mk (HV1.out.reader HG.out.1.1 HG.out.1.2 HG.out.2.1 hi hb hk)
    clear hi hb hk HV1 HC
    by_cases hce : c = endc
    · rw [if_pos hce] at h
      have d1 : (c == endc) = true := beq_iff_eq.mpr hce
      simp only [Option.some.injEq, Prod.mk.injEq] at h
      obtain ⟨rfl, rfl, rfl, rfl, rfl, rfl⟩ := h
      have hz := HV2.out.st.1
      have z2 := cellS45_1 hz
      have y2 := blk_frozen hz 1
      clear hz hce
      go_wp2
      refine bodyPost_ret (results_none rfl _ _ _) rfl ?_
      exact ⟨rfl, .slice none 0 0, .slice none 0 0, HV2.out.reader HG.out.1.1 HG.out.1.2 HG.out.2.1 (HV2.out.st.set_1 _) (below_set HV2.out.below HV2.out.st.ge) ((KeepBut.refl w2 g none).set_ 1 _)⟩
    · rw [if_neg hce] at h
      have d1 : (c == endc) = false := beq_eq_false_iff_ne.mpr hce
      have H' := Aside0.mk h
      clear h hce z1 y1
      go_wp2_with fail
      go_loopg [31] k (fun kq x31 wr => ∃ (s : ByteArray) (i : Int) (b : Bool) (K1 : List ByteArray) (I1 : List JT) (P1 : Bool) (kv iv : Value), Aside0 (loopF kq s i b endc ks K1 I1 P1 = some (K, I, P, s', i', b')) ∧ Aside0 (kq ≤ k) ∧ Aside0 (Inv w0 w wr g tb c0 c1 c2 c3 s i b K1 I1 P1 kv iv))
      case atStart => exact ⟨s2, i2, b2, [], [], true, _, _, H', ⟨Nat.le_refl _⟩, HV2⟩
      case round =>
        clear H' HV2
        obtain ⟨s, i, b, K1, I1, P1, kv, iv, HA, HK1, HV⟩ := hrel
        cases gk with
        | zero => exact absurd HA.out (by simp [loopF])
        | succ k1 =>
          have h := HA.out
          clear HA
          simp only [loopF] at h
          have hz := HV.out.st.1
          have z0 := cellS45_0 hz
          have z1 := cellS45_1 hz
          have z2 := cellS45_2 hz
          have hx := HV.out.box
          have x5 : wr.cell? ⟨tb, 5, none⟩ = some kv := (blk_cell hx 5).trans rfl
          have f5 := blk_frozen hx 5
          clear hz hx
          cases b with
          | true =>
            rw [if_pos rfl] at h
            replace h := Option.bind_eq_some_iff.mp h
            obtain ⟨⟨s3, i3, b3⟩, hq, h⟩ := h
            simp only [Option.some.injEq, Prod.mk.injEq] at h
            obtain ⟨rfl, rfl, rfl, rfl, rfl, rfl⟩ := h
            have HQ := Aside0.mk hq
            clear hq
            go_wp2_with fail
            refine (spec_reading_take.calls g s i true endc s3 i3 b3 w0 _ HV.out.st HV.out.below HQ.out).mono ?_
            rintro e w3 ⟨rfl, hi, hb, hk⟩
            have HV3 := Aside0.mk (HV.out.reader HG.out.1.1 HG.out.1.2 HG.out.2.1 hi hb hk)
            clear hi hb hk HV HQ
            go_wp2
            refine bodyPost_end (results_none rfl _ _ _) rfl ?_
            exact ⟨rfl, kv, iv, HV3.out⟩
          | false =>
            rw [if_neg (by decide)] at h
            by_cases hlen : K1.length < 1000000
            · rw [if_pos hlen] at h
              have H1 := Aside0.mk h
              have HL := Aside0.mk hlen
              clear h hlen z0 z1 x5 f5
              go_upto_if 36 with (fail)
              go_cut [36] (fun x36 wc => ∃ (s : ByteArray) (i : Int) (b : Bool) (K1 : List ByteArray) (P1 : Bool) (kv iv : Value), Aside0 (itemF k1 s i b endc ks K1 I1 P1 = some (K, I, P, s', i', b')) ∧ Aside0 (Inv w0 w wc g tb c0 c1 c2 c3 s i b K1 I1 P1 kv iv))
              case first =>
                have h := H1.out
                clear H1
                by_cases hks : ks = true
                · subst hks
                  rw [if_pos rfl] at h
                  replace h := Option.bind_eq_some_iff.mp h
                  obtain ⟨⟨t1, t2, s3, i3, b3⟩, hq1, h⟩ := h
                  replace h := Option.bind_eq_some_iff.mp h
                  obtain ⟨⟨s4, i4, b4⟩, hq2, h⟩ := h
                  replace h := Option.bind_eq_some_iff.mp h
                  obtain ⟨⟨s5, i5, b5⟩, hq3, h⟩ := h
                  replace h := Option.bind_eq_some_iff.mp h
                  obtain ⟨⟨s6, i6, b6⟩, hq4, h⟩ := h
                  dsimp only at hq2 hq3 hq4 h
                  have HQ1 := Aside0.mk hq1
                  have HQ2 := Aside0.mk hq2
                  have HQ3 := Aside0.mk hq3
                  have HQ4 := Aside0.mk hq4
                  have H' := Aside0.mk h
                  clear hq1 hq2 hq3 hq4 h
                  cases P1 with
                  | true =>
                    go_wp2_with fail
                    refine (spec_reading_text.calls k1 g s i false t1 t2 s3 i3 b3 w0 _ HV.out.st HV.out.below HQ1.out).mono ?_
                    rintro e w3 ⟨rfl, hi, hb, hk⟩
                    have HV3 := Aside0.mk (HV.out.reader HG.out.1.1 HG.out.1.2 HG.out.2.1 hi hb hk)
                    have hx := HV3.out.box
                    have x5 : w3.cell? ⟨tb, 5, none⟩ = some kv := (blk_cell hx 5).trans rfl
                    have f5 := blk_frozen hx 5
                    clear hi hb hk HV HQ1 hx
                    go_wp2_with (at_builtin; refine print_append (w0 := w3) w.heap.size rfl (.tmp 46) (.tmp 48) 22 9 (.string ⟨#[]⟩) 16 rfl Tryd.underlying22 info_str rfl (by decide) kv (pw_strs K1) (.string t1) rfl rfl rfl (keys_len HV3.out.keys) (Below.refl _ _) HV3.out.sz (by have := HL.out; simp [pw_strs]; omega) ?_; intro v1 w4 ho1 hB4 hg4 hat4; have HV4 := Aside0.mk ((HV3.out.key (x := t1) HG.out.1.1 HG.out.1.2 (by have := HW0.out; have := HG.out; omega) HG.out.2.2 HG.out.2.1 ho1 hg4 hat4).box_set HG.out.1.2 HG.out.2.2 HG.out.2.1 t2); obtain ⟨⟨x4', x5', _⟩, f4', f5', _⟩ := box_in HV3.out.box hg4 (not_own HV3.out.keys HG.out.1.2); obtain ⟨A1, m1, n1, e1⟩ := own_slice3 ho1; clear ho1 hB4 hg4 hat4; subst e1)
                    refine (spec_reading_blank.calls k1 g s3 i3 b3 s4 i4 b4 w0 _ HV4.out.st HV4.out.below HQ2.out).mono ?_
                    rintro e w5 ⟨rfl, hi, hb, hk⟩
                    have HV5 := Aside0.mk (HV4.out.reader HG.out.1.1 HG.out.1.2 HG.out.2.1 hi hb hk)
                    clear hi hb hk HV3 HV4 HQ2 x4' x5' f4' f5'
                    go_wp2_with fail
                    refine (spec_reading_take.calls g s4 i4 b4 58 s5 i5 b5 w0 _ HV5.out.st HV5.out.below HQ3.out).mono ?_
                    rintro e w6 ⟨rfl, hi, hb, hk⟩
                    have HV6 := Aside0.mk (HV5.out.reader HG.out.1.1 HG.out.1.2 HG.out.2.1 hi hb hk)
                    clear hi hb hk HV5 HQ3
                    go_wp2_with fail
                    refine (spec_reading_blank.calls k1 g s5 i5 b5 s6 i6 b6 w0 _ HV6.out.st HV6.out.below HQ4.out).mono ?_
                    rintro e w7 ⟨rfl, hi, hb, hk⟩
                    have HV7 := Aside0.mk (HV6.out.reader HG.out.1.1 HG.out.1.2 HG.out.2.1 hi hb hk)
                    clear hi hb hk HV6 HQ4
                    go_wp2
                    go_meet
                    case rel => exact ⟨s6, i6, b6, K1 ++ [t1], _, _, _, H', HV7⟩
                  | false =>
                    go_wp2_with fail
                    refine (spec_reading_text.calls k1 g s i false t1 t2 s3 i3 b3 w0 _ HV.out.st HV.out.below HQ1.out).mono ?_
                    rintro e w3 ⟨rfl, hi, hb, hk⟩
                    have HV3 := Aside0.mk (HV.out.reader HG.out.1.1 HG.out.1.2 HG.out.2.1 hi hb hk)
                    have hx := HV3.out.box
                    have x5 : w3.cell? ⟨tb, 5, none⟩ = some kv := (blk_cell hx 5).trans rfl
                    have f5 := blk_frozen hx 5
                    clear hi hb hk HV HQ1 hx
                    go_wp2_with (at_builtin; refine print_append (w0 := w3) w.heap.size rfl (.tmp 46) (.tmp 48) 22 9 (.string ⟨#[]⟩) 16 rfl Tryd.underlying22 info_str rfl (by decide) kv (pw_strs K1) (.string t1) rfl rfl rfl (keys_len HV3.out.keys) (Below.refl _ _) HV3.out.sz (by have := HL.out; simp [pw_strs]; omega) ?_; intro v1 w4 ho1 hB4 hg4 hat4; have HV4 := Aside0.mk ((HV3.out.key (x := t1) HG.out.1.1 HG.out.1.2 (by have := HW0.out; have := HG.out; omega) HG.out.2.2 HG.out.2.1 ho1 hg4 hat4).box_set HG.out.1.2 HG.out.2.2 HG.out.2.1 false); obtain ⟨⟨x4', x5', _⟩, f4', f5', _⟩ := box_in HV3.out.box hg4 (not_own HV3.out.keys HG.out.1.2); obtain ⟨A1, m1, n1, e1⟩ := own_slice3 ho1; clear ho1 hB4 hg4 hat4; subst e1)
                    refine (spec_reading_blank.calls k1 g s3 i3 b3 s4 i4 b4 w0 _ HV4.out.st HV4.out.below HQ2.out).mono ?_
                    rintro e w5 ⟨rfl, hi, hb, hk⟩
                    have HV5 := Aside0.mk (HV4.out.reader HG.out.1.1 HG.out.1.2 HG.out.2.1 hi hb hk)
                    clear hi hb hk HV3 HV4 HQ2 x4' x5' f4' f5'
                    go_wp2_with fail
                    refine (spec_reading_take.calls g s4 i4 b4 58 s5 i5 b5 w0 _ HV5.out.st HV5.out.below HQ3.out).mono ?_
                    rintro e w6 ⟨rfl, hi, hb, hk⟩
                    have HV6 := Aside0.mk (HV5.out.reader HG.out.1.1 HG.out.1.2 HG.out.2.1 hi hb hk)
                    clear hi hb hk HV5 HQ3
                    go_wp2_with fail
                    refine (spec_reading_blank.calls k1 g s5 i5 b5 s6 i6 b6 w0 _ HV6.out.st HV6.out.below HQ4.out).mono ?_
                    rintro e w7 ⟨rfl, hi, hb, hk⟩
                    have HV7 := Aside0.mk (HV6.out.reader HG.out.1.1 HG.out.1.2 HG.out.2.1 hi hb hk)
                    clear hi hb hk HV6 HQ4
                    go_wp2
                    go_meet
                    case rel => exact ⟨s6, i6, b6, K1 ++ [t1], _, _, _, H', HV7⟩
                · rw [if_neg hks] at h
                  have H' := Aside0.mk h
                  have hks' : ks = false := by simpa using hks
                  subst hks'
                  clear h hks
                  go_wp2
                  go_meet
                  case rel => exact ⟨s, i, false, K1, P1, kv, iv, H', HV⟩
              case rest =>
                clear H1 HV
                obtain ⟨s, i, b, K1, P1, kv, iv, HA, HV⟩ := hcut
                cases k1 with
                | zero => exact absurd HA.out (by simp [itemF])
                | succ k2 =>
                  have h := HA.out
                  clear HA
                  simp only [itemF] at h
                  by_cases hlen : I1.length < 1000000
                  · rw [if_pos hlen] at h
                    replace h := Option.bind_eq_some_iff.mp h
                    obtain ⟨⟨T, s3, i3, b3⟩, hq1, h⟩ := h
                    replace h := Option.bind_eq_some_iff.mp h
                    obtain ⟨⟨s4, i4, b4⟩, hq2, h⟩ := h
                    replace h := Option.bind_eq_some_iff.mp h
                    obtain ⟨⟨c4, s5, i5, b5⟩, hq3, h⟩ := h
                    dsimp only at hq2 hq3 h
                    have HQ1 := Aside0.mk hq1
                    have HQ2 := Aside0.mk hq2
                    have HQ3 := Aside0.mk hq3
                    have H' := Aside0.mk h
                    have HL := Aside0.mk hlen
                    have HIH := Aside0.mk (ih k2 (by have := HK1.out; omega))
                    clear hq1 hq2 hq3 h hlen
                    go_wp2_with fail
                    refine (HIH.out g s i b T s3 i3 b3 w0 _ HV.out.st HV.out.below HQ1.out).mono ?_
                    rintro e w3 ⟨kv2, iv2, rfl, ht, hi, hb, hk⟩
                    have HV3 := Aside0.mk (HV.out.reader HG.out.1.1 HG.out.1.2 HG.out.2.1 hi hb hk)
                    have HTR := Aside0.mk (ht.move (w' := w3) (ok' := fun q => w.heap.size ≤ q ∧ some q ≠ kv.ownBlock ∧ some q ≠ iv.ownBlock) (fun q hq _ => ⟨⟨Nat.le_trans HV.out.sz hq, fun e => absurd (own_lt HV.out.keys q e.symm) (by omega), fun e => by obtain ⟨zs, hz⟩ := HV.out.itemsOwn; exact absurd (own_lt hz q e.symm) (by omega)⟩, rfl⟩))
                    obtain ⟨Ak, mk, ck, Ai, mi, ci, ek, ei⟩ := tree_slices ht
                    clear hi hb hk ht HQ1 HIH
                    subst ek ei
                    go_upto_region 13 with (fail)
                    obtain ⟨cs, h7, hxs, htc⟩ := HV3.out.items
                    obtain ⟨xs, exs⟩ : ∃ xs, (List.range I1.length).flatMap cs = xs := ⟨_, rfl⟩
                    rw [exs] at hxs
                    have hxl : xs.length = I1.length * 7 := by rw [← exs]; exact (flat_at cs _ h7).1
                    have HCS := Aside0.mk (And.intro h7 (And.intro htc (And.intro exs hxl)))
                    clear h7 htc exs hxl
                    obtain ⟨Ao, co, eo⟩ := own_slice hxs
                    subst eo
                    obtain ⟨xb, hxb⟩ : ∃ xb, w3.heap.size = xb := ⟨_, rfl⟩
                    rw [hxb]
                    obtain ⟨W3, hW3⟩ : ∃ W3, w3.alloc (.cells #[.int .i64 T.kind, .string T.raw, .int .i64 T.place, .string T.str, .bool T.pairs, .slice Ak mk ck, .slice Ai mi ci] 25) = W3 := ⟨_, rfl⟩
                    rw [hW3]
                    have hnew : W3.heap[xb]? = some (.cells #[.int .i64 T.kind, .string T.raw, .int .i64 T.place, .string T.str, .bool T.pairs, .slice Ak mk ck, .slice Ai mi ci] 25 (0, 0)) := by rw [← hW3, ← hxb]; exact heap_alloc_new _ _
                    have hx : W3.heap[tb]? = some (.cells #[c0, c1, c2, c3, .bool P1, kv, .slice Ao I1.length co] 25 (0, 0)) := by rw [← hW3]; exact blk_alloc HV3.out.box _
                    have hsz : xb + 1 = W3.heap.size := by rw [← hW3, ← hxb]; simp
                    have hle : w.heap.size ≤ xb := by rw [← hxb]; exact HV3.out.sz
                    have x6 : W3.cell? ⟨tb, 6, none⟩ = some (.slice Ao I1.length co) := (blk_cell hx 6).trans rfl
                    have f6 := blk_frozen hx 6
                    have u0 : W3.cell? ⟨xb, 0, none⟩ = some (.int .i64 T.kind) := (blk_cell hnew 0).trans rfl
                    have u1 : W3.cell? ⟨xb, 1, none⟩ = some (.string T.raw) := (blk_cell hnew 1).trans rfl
                    have u2 : W3.cell? ⟨xb, 2, none⟩ = some (.int .i64 T.place) := (blk_cell hnew 2).trans rfl
                    have u3 : W3.cell? ⟨xb, 3, none⟩ = some (.string T.str) := (blk_cell hnew 3).trans rfl
                    have u4 : W3.cell? ⟨xb, 4, none⟩ = some (.bool T.pairs) := (blk_cell hnew 4).trans rfl
                    have u5 : W3.cell? ⟨xb, 5, none⟩ = some (.slice Ak mk ck) := (blk_cell hnew 5).trans rfl
                    have u6 : W3.cell? ⟨xb, 6, none⟩ = some (.slice Ai mi ci) := (blk_cell hnew 6).trans rfl
                    have y6 : ∀ o, (W3.alloc o).cell? ⟨tb, 6, none⟩ = some (.slice Ao I1.length co) := fun o => (blk_cell (blk_alloc hx o) 6).trans rfl
                    have yf6 : ∀ o, (W3.alloc o).frozen? ⟨tb, 6, none⟩ = false := fun o => blk_frozen (blk_alloc hx o) 6
                    have y0 : ∀ o, (W3.alloc o).cell? ⟨xb, 0, none⟩ = some (.int .i64 T.kind) := fun o => (blk_cell (blk_alloc hnew o) 0).trans rfl
                    have y1 : ∀ o, (W3.alloc o).cell? ⟨xb, 1, none⟩ = some (.string T.raw) := fun o => (blk_cell (blk_alloc hnew o) 1).trans rfl
                    have y2 : ∀ o, (W3.alloc o).cell? ⟨xb, 2, none⟩ = some (.int .i64 T.place) := fun o => (blk_cell (blk_alloc hnew o) 2).trans rfl
                    have y3 : ∀ o, (W3.alloc o).cell? ⟨xb, 3, none⟩ = some (.string T.str) := fun o => (blk_cell (blk_alloc hnew o) 3).trans rfl
                    have y4 : ∀ o, (W3.alloc o).cell? ⟨xb, 4, none⟩ = some (.bool T.pairs) := fun o => (blk_cell (blk_alloc hnew o) 4).trans rfl
                    have y5 : ∀ o, (W3.alloc o).cell? ⟨xb, 5, none⟩ = some (.slice Ak mk ck) := fun o => (blk_cell (blk_alloc hnew o) 5).trans rfl
                    have y7 : ∀ o, (W3.alloc o).cell? ⟨xb, 6, none⟩ = some (.slice Ai mi ci) := fun o => (blk_cell (blk_alloc hnew o) 6).trans rfl
                    have HOW := Aside0.mk (show W3.ownsRow w.heap.size 25 7 (.slice Ao I1.length co) I1.length xs by rw [← hW3]; exact hxs.alloc _)
                    have q1 : (0 : Int) ≤ (I1.length : Int) := Int.natCast_nonneg _
                    have q2 : (I1.length : Int) < (I1.length : Int) + 1 := by omega
                    have HNEW := Aside0.mk (And.intro hW3 (And.intro hxb (And.intro hnew (And.intro hx (And.intro hsz hle)))))
                    clear hx hxs hnew hW3 hxb hsz hle
                    go_cut [10] (fun x10 wc => ∃ (xb : Nat) (iv1 : Value), x10 = .pointer (some ⟨xb, 0, none⟩) ∧ wc.cell? ⟨xb, 4, none⟩ = some (.bool T.pairs) ∧ Aside0 (Inv w0 w wc g tb c0 c1 c2 c3 s3 i3 b3 K1 (I1 ++ [T]) P1 kv iv1))
                    case first =>
                      obtain ⟨i0, hi0, hz0, hz1, hz2⟩ := info_parts info_tree
                      go_region_law (refine step_append_lies _ (by rfl) _ _ _ (by rfl) w.heap.size 25 i0 _ 7 104 Tryd.underlying23 hi0 hz0 hz1 hz2 rfl (by omega) (.slice Ao I1.length co) I1.length xs (by rfl) (by exact (HOW.out.alloc _).drew) ⟨W3.heap.size, 0, none⟩ 1 1 [.int .i64 0, .string ⟨#[]⟩, .int .i64 0, .string ⟨#[]⟩, .bool false, .slice none 0 0, .slice none 0 0] (by rfl) (by rfl) (World.news_of_block (cs := #[.int .i64 0, .string ⟨#[]⟩, .int .i64 0, .string ⟨#[]⟩, .bool false, .slice none 0 0, .slice none 0 0]) (t := 25) (fr := (0, 0)) (heap_alloc_new W3 _)) (by simp [Value.oneCell']) (by omega) (by have := HL.out; simp only [maxLen]; omega) (by have := HL.out; omega) (by have := HNEW.out.2.2.2.2; simp; omega) (W3.heap.size + 1) (by simp) ?_; intro gg cap w5 hown5 hgrow5 hat5 hlt5; obtain ⟨⟨r0, r1, r2, r3, r4, r5, r6⟩, ⟨v0, v1, v2, v3, v4, v5, v6⟩⟩ := row_tail hown5 HCS.out.2.2.2; have hb5 := box5 HNEW.out.2.2.2.1 hgrow5 (not_own HOW.out HG.out.1.2); have t6 : w5.cell? ⟨tb, 6, none⟩ = some (.slice Ao I1.length co) := (blk_cell hb5 6).trans rfl; have g6 := blk_frozen hb5 6; clear hb5; have ngb : w.heap.size ≤ gg := own_base hown5 gg rfl; have ng : ¬ gg = tb := (by have := HG.out.1.2; omega); have ng' : ¬ tb = gg := (by have := HG.out.1.2; omega); clear ngb; have HOW5 := Aside0.mk (And.intro hown5 (And.intro hgrow5 (And.intro hat5 hlt5))); clear hown5 hgrow5 hat5 hlt5)
                      all_goals
                        go_wp2
                        go_meet
                        case rel =>
                          have R := item_orders HV3.out HG.out.1.1 HG.out.1.2 HW0.out HG.out.2.2 HG.out.2.1 HCS.out.1 HCS.out.2.1 HCS.out.2.2.1 HTR.out HNEW.out.1 HNEW.out.2.1 rfl HOW5.out.2.1 HOW5.out.2.2.1 HOW5.out.1
                          unfold row7 at R
                          first
                            | (with_reducible exact ⟨xb, .slice (some ⟨gg, 0, none⟩) (I1.length + 1) cap, rfl, R.1.1, ⟨R.1.2⟩⟩) | (with_reducible exact ⟨xb, .slice (some ⟨gg, 0, none⟩) (I1.length + 1) cap, rfl, R.2.1, ⟨R.2.2⟩⟩)
                    case rest =>
                      clear HV3 HTR HCS HOW HNEW x6 f6 u0 u1 u2 u3 u4 u5 u6 y6 yf6 y0 y1 y2 y3 y4 y5 y7 q1 q2 HL
                      obtain ⟨xb, iv1, rfl, hx4, HV4⟩ := hcut
                      have hx := HV4.out.box
                      have t4 := (blk_cell hx 4).trans (rfl : _ = some (Value.bool P1))
                      have f4 := blk_frozen hx 4
                      clear hx
                      cases P1 with
                      | true =>
                        have h := H'.out
                        clear H'
                        have HV5 := Aside0.mk (HV4.out.box_set HG.out.1.2 HG.out.2.2 HG.out.2.1 T.pairs)
                        go_wp2_with fail
                        refine (spec_reading_blank.calls k2 g s3 i3 b3 s4 i4 b4 w0 _ HV5.out.st HV5.out.below HQ2.out).mono ?_
                        rintro e w6 ⟨rfl, hi, hb, hk⟩
                        have HV6 := Aside0.mk (HV5.out.reader HG.out.1.1 HG.out.1.2 HG.out.2.1 hi hb hk)
                        clear hi hb hk HV4 HV5 HQ2 hx4 t4 f4
                        go_wp2_with fail
                        refine (spec_reading_next.calls g s4 i4 b4 c4 s5 i5 b5 w0 _ HV6.out.st HV6.out.below HQ3.out).mono ?_
                        rintro e w7 ⟨rfl, hi, hb, hk⟩
                        have HV7 := Aside0.mk (HV6.out.reader HG.out.1.1 HG.out.1.2 HG.out.2.1 hi hb hk)
                        clear hi hb hk HV6 HQ3
                        by_cases hc4 : c4 = 44
                        · rw [if_pos hc4] at h
                          replace h := Option.bind_eq_some_iff.mp h
                          obtain ⟨⟨s6, i6, b6⟩, hq, h⟩ := h
                          have HQ4 := Aside0.mk hq
                          have H' := Aside0.mk h
                          have d4 : (c4 != 44) = false := bne_eq_false_iff_eq.mpr hc4
                          have hz := HV7.out.st.1
                          have z1 := cellS45_1 hz
                          have y1 := blk_frozen hz 1
                          clear hq h hc4 hz
                          have HV8 := Aside0.mk (HV7.out.reader HG.out.1.1 HG.out.1.2 HG.out.2.1 (HV7.out.st.set_1 (wrap64 (i5 + 1))) (below_set HV7.out.below HV7.out.st.ge) ((KeepBut.refl w7 g none).set_ 1 (.int .i64 (wrap64 (i5 + 1)))))
                          go_wp2_with fail
                          refine (spec_reading_blank.calls k2 g s5 (wrap64 (i5 + 1)) b5 s6 i6 b6 w0 _ HV8.out.st HV8.out.below HQ4.out).mono ?_
                          rintro e w8 ⟨rfl, hi, hb, hk⟩
                          have HV9 := Aside0.mk (HV8.out.reader HG.out.1.1 HG.out.1.2 HG.out.2.1 hi hb hk)
                          clear hi hb hk HV7 HV8 HQ4 z1 y1
                          go_wp2
                          go_roundg k2
                          case measure => omega
                          case rel => exact ⟨s6, i6, b6, K1, I1 ++ [T], _, kv, iv1, H', ⟨by have := HK1.out; omega⟩, HV9⟩
                        · rw [if_neg hc4] at h
                          replace h := Option.bind_eq_some_iff.mp h
                          obtain ⟨⟨s6, i6, b6⟩, hq, h⟩ := h
                          have HQ4 := Aside0.mk hq
                          simp only [Option.some.injEq, Prod.mk.injEq] at h
                          obtain ⟨rfl, rfl, rfl, rfl, rfl, rfl⟩ := h
                          have d4 : (c4 != 44) = true := bne_iff_ne.mpr hc4
                          clear hq hc4
                          go_wp2_with fail
                          refine (spec_reading_take.calls g s5 i5 b5 endc s6 i6 b6 w0 _ HV7.out.st HV7.out.below HQ4.out).mono ?_
                          rintro e w8 ⟨rfl, hi, hb, hk⟩
                          have HV9 := Aside0.mk (HV7.out.reader HG.out.1.1 HG.out.1.2 HG.out.2.1 hi hb hk)
                          clear hi hb hk HV7 HQ4
                          go_wp2
                          refine bodyPost_end (results_none rfl _ _ _) rfl ?_
                          exact ⟨rfl, kv, iv1, HV9.out⟩
                      | false =>
                        have h := H'.out
                        clear H'
                        have HV5 := Aside0.mk (HV4.out.box_set HG.out.1.2 HG.out.2.2 HG.out.2.1 false)
                        go_wp2_with fail
                        refine (spec_reading_blank.calls k2 g s3 i3 b3 s4 i4 b4 w0 _ HV5.out.st HV5.out.below HQ2.out).mono ?_
                        rintro e w6 ⟨rfl, hi, hb, hk⟩
                        have HV6 := Aside0.mk (HV5.out.reader HG.out.1.1 HG.out.1.2 HG.out.2.1 hi hb hk)
                        clear hi hb hk HV4 HV5 HQ2 hx4 t4 f4
                        go_wp2_with fail
                        refine (spec_reading_next.calls g s4 i4 b4 c4 s5 i5 b5 w0 _ HV6.out.st HV6.out.below HQ3.out).mono ?_
                        rintro e w7 ⟨rfl, hi, hb, hk⟩
                        have HV7 := Aside0.mk (HV6.out.reader HG.out.1.1 HG.out.1.2 HG.out.2.1 hi hb hk)
                        clear hi hb hk HV6 HQ3
                        by_cases hc4 : c4 = 44
                        · rw [if_pos hc4] at h
                          replace h := Option.bind_eq_some_iff.mp h
                          obtain ⟨⟨s6, i6, b6⟩, hq, h⟩ := h
                          have HQ4 := Aside0.mk hq
                          have H' := Aside0.mk h
                          have d4 : (c4 != 44) = false := bne_eq_false_iff_eq.mpr hc4
                          have hz := HV7.out.st.1
                          have z1 := cellS45_1 hz
                          have y1 := blk_frozen hz 1
                          clear hq h hc4 hz
                          have HV8 := Aside0.mk (HV7.out.reader HG.out.1.1 HG.out.1.2 HG.out.2.1 (HV7.out.st.set_1 (wrap64 (i5 + 1))) (below_set HV7.out.below HV7.out.st.ge) ((KeepBut.refl w7 g none).set_ 1 (.int .i64 (wrap64 (i5 + 1)))))
                          go_wp2_with fail
                          refine (spec_reading_blank.calls k2 g s5 (wrap64 (i5 + 1)) b5 s6 i6 b6 w0 _ HV8.out.st HV8.out.below HQ4.out).mono ?_
                          rintro e w8 ⟨rfl, hi, hb, hk⟩
                          have HV9 := Aside0.mk (HV8.out.reader HG.out.1.1 HG.out.1.2 HG.out.2.1 hi hb hk)
                          clear hi hb hk HV7 HV8 HQ4 z1 y1
                          go_wp2
                          go_roundg k2
                          case measure => omega
                          case rel => exact ⟨s6, i6, b6, K1, I1 ++ [T], _, kv, iv1, H', ⟨by have := HK1.out; omega⟩, HV9⟩
                        · rw [if_neg hc4] at h
                          replace h := Option.bind_eq_some_iff.mp h
                          obtain ⟨⟨s6, i6, b6⟩, hq, h⟩ := h
                          have HQ4 := Aside0.mk hq
                          simp only [Option.some.injEq, Prod.mk.injEq] at h
                          obtain ⟨rfl, rfl, rfl, rfl, rfl, rfl⟩ := h
                          have d4 : (c4 != 44) = true := bne_iff_ne.mpr hc4
                          clear hq hc4
                          go_wp2_with fail
                          refine (spec_reading_take.calls g s5 i5 b5 endc s6 i6 b6 w0 _ HV7.out.st HV7.out.below HQ4.out).mono ?_
                          rintro e w8 ⟨rfl, hi, hb, hk⟩
                          have HV9 := Aside0.mk (HV7.out.reader HG.out.1.1 HG.out.1.2 HG.out.2.1 hi hb hk)
                          clear hi hb hk HV7 HQ4
                          go_wp2
                          refine bodyPost_end (results_none rfl _ _ _) rfl ?_
                          exact ⟨rfl, kv, iv1, HV9.out⟩
                  · rw [if_neg hlen] at h
                    exact absurd h (by simp)
            · rw [if_neg hlen] at h
              exact absurd h (by simp)
end Go.Proofs.YtldfejbmdonaoaaDoor.Tl