/- Joined by a program of mine from texts of this claim: Tw. -/
import Derived.Test.YtldfejbmdonaoaaDoorX10
namespace Go.Proofs.YtldfejbmdonaoaaDoor.Tw
open Go.RowKit YtldfejbmdonaoaaDoorW.PrintWords YtldfejbmdonaoaaDoorW.PrintLast YtldfejbmdonaoaaDoorW.PrintMore
set_option linter.unusedVariables false
inductive JT where
  | mk (kind : Int) (raw : ByteArray) (place : Int) (str : ByteArray) (pairs : Bool) (keys : List ByteArray) (items : List JT)
def JT.kind : JT → Int | .mk k _ _ _ _ _ _ => k
def JT.raw : JT → ByteArray | .mk _ r _ _ _ _ _ => r
def JT.place : JT → Int | .mk _ _ a _ _ _ _ => a
def JT.str : JT → ByteArray | .mk _ _ _ s _ _ _ => s
def JT.pairs : JT → Bool | .mk _ _ _ _ p _ _ => p
def JT.keys : JT → List ByteArray | .mk _ _ _ _ _ k _ => k
def JT.items : JT → List JT | .mk _ _ _ _ _ _ i => i
def cells7 (k : Int) (r : ByteArray) (a : Int) (s : ByteArray) (p : Bool) (kv iv : Value) : List Value := [.int .i64 k, .string r, .int .i64 a, .string s, .bool p, kv, iv]
def StrsAt (w : World) (ok : Nat → Prop) (v : Value) (K : List ByteArray) : Prop :=
  ∃ A c, v = .slice A K.length c ∧ (0 < K.length → ∃ q, A = some ⟨q, 0, none⟩ ∧ ok q ∧ ∀ j (h : j < K.length), w.cell? ⟨q, j, none⟩ = some (.string K[j]))
def CellsAt (w : World) (ok : Nat → Prop) (v : Value) (n : Nat) (cs : Nat → List Value) : Prop :=
  ∃ A c, v = .slice A n c ∧ (∀ j, j < n → (cs j).length = 7) ∧ (0 < n → ∃ q, A = some ⟨q, 0, none⟩ ∧ ok q ∧ ∀ j, j < n → ∀ i (h : i < (cs j).length), w.cell? ⟨q, j * 7 + i, none⟩ = some (cs j)[i])
inductive TreeAt (w : World) (ok : Nat → Prop) : List Value → JT → Prop where
  | mk (k : Int) (r : ByteArray) (a : Int) (s : ByteArray) (p : Bool) (kv iv : Value) (K : List ByteArray) (I : List JT) (cs : Nat → List Value)
      (hk : StrsAt w ok kv K) (hc : CellsAt w ok iv I.length cs) (hi : ∀ j (h : j < I.length), TreeAt w ok (cs j) I[j]) : TreeAt w ok (cells7 k r a s p kv iv) (.mk k r a s p K I)
theorem lt_of_cell {w : World} {q j : Nat} {v : Value} (h : w.cell? ⟨q, j, none⟩ = some v) : q < w.heap.size := World.block_lt_of_cell? w ⟨q, j, none⟩ h
theorem cell_same {w w' : World} {q j : Nat} {v : Value} (h : w.cell? ⟨q, j, none⟩ = some v) (e : w'.heap[q]? = w.heap[q]?) : w'.cell? ⟨q, j, none⟩ = some v := (World.cell?_of_block (a := ⟨q, j, none⟩) e).trans h
theorem StrsAt.move {w w' : World} {ok ok' : Nat → Prop} {v : Value} {K : List ByteArray} (h : StrsAt w ok v K)
    (hm : ∀ q, ok q → q < w.heap.size → ok' q ∧ w'.heap[q]? = w.heap[q]?) : StrsAt w' ok' v K := by
  obtain ⟨A, c, hv, hc⟩ := h
  refine ⟨A, c, hv, fun h0 => ?_⟩
  obtain ⟨q, hA, hq, hcell⟩ := hc h0
  obtain ⟨h1, h2⟩ := hm q hq (lt_of_cell (hcell 0 h0))
  exact ⟨q, hA, h1, fun j hj => cell_same (hcell j hj) h2⟩
theorem CellsAt.move {w w' : World} {ok ok' : Nat → Prop} {v : Value} {n : Nat} {cs : Nat → List Value} (h : CellsAt w ok v n cs)
    (hm : ∀ q, ok q → q < w.heap.size → ok' q ∧ w'.heap[q]? = w.heap[q]?) : CellsAt w' ok' v n cs := by
  obtain ⟨A, c, hv, h7, hc⟩ := h
  refine ⟨A, c, hv, h7, fun h0 => ?_⟩
  obtain ⟨q, hA, hq, hcell⟩ := hc h0
  obtain ⟨h1, h2⟩ := hm q hq (lt_of_cell (hcell 0 h0 0 (by rw [h7 0 h0]; omega)))
  exact ⟨q, hA, h1, fun j hj i hi => cell_same (hcell j hj i hi) h2⟩
theorem TreeAt.move {w w' : World} {ok ok' : Nat → Prop} {cs : List Value} {T : JT} (h : TreeAt w ok cs T)
    (hm : ∀ q, ok q → q < w.heap.size → ok' q ∧ w'.heap[q]? = w.heap[q]?) : TreeAt w' ok' cs T := by
  induction h with
  | mk k r a s p kv iv K I cs hk hc _ ih => exact .mk k r a s p kv iv K I cs (hk.move hm) (hc.move hm) ih
def KeysRow (w : World) (B : Nat) (kv : Value) (K : List ByteArray) : Prop := w.ownsRow B 9 1 kv K.length (pw_strs K)
def ItemsRow (w : World) (B : Nat) (ok : Nat → Prop) (iv : Value) (I : List JT) : Prop :=
  ∃ cs : Nat → List Value, (∀ j, j < I.length → (cs j).length = 7) ∧ w.ownsRow B 25 7 iv I.length ((List.range I.length).flatMap cs) ∧ ∀ j (h : j < I.length), TreeAt w ok (cs j) I[j]
theorem KeysRow.nil (w : World) (B : Nat) : KeysRow w B (.slice none 0 0) [] := World.ownsRow_nil w B _ 1
theorem ItemsRow.nil (w : World) (B : Nat) (ok : Nat → Prop) : ItemsRow w B ok (.slice none 0 0) [] :=
  ⟨fun _ => [], fun j h => absurd h (Nat.not_lt_zero j), World.ownsRow_nil w B _ 7, fun j h => absurd h (Nat.not_lt_zero j)⟩
theorem flat_at (cs : Nat → List Value) : ∀ (n : Nat) (_ : ∀ j, j < n → (cs j).length = 7), ((List.range n).flatMap cs).length = n * 7 ∧ ∀ j, j < n → ∀ i (h : i < (cs j).length), ((List.range n).flatMap cs)[j * 7 + i]? = some (cs j)[i]
  | 0, _ => ⟨by simp, fun j h => absurd h (Nat.not_lt_zero j)⟩
  | n + 1, h7 => by
    obtain ⟨hl, hat⟩ := flat_at cs n fun j hj => h7 j (by omega)
    have e : (List.range (n + 1)).flatMap cs = (List.range n).flatMap cs ++ cs n := by simp [List.range_succ, List.flatMap_append]
    refine ⟨by rw [e, List.length_append, hl, h7 n (by omega)]; omega, fun j hj i hi => ?_⟩
    rw [e]
    rcases Nat.lt_or_ge j n with h | h
    · rw [List.getElem?_append_left (by have := h7 j hj; omega)]
      exact hat j h i hi
    · obtain rfl : j = n := by omega
      rw [List.getElem?_append_right (by omega), hl, Nat.add_sub_cancel_left]
      exact List.getElem?_eq_getElem hi
theorem ItemsRow.cells {w : World} {B : Nat} {ok : Nat → Prop} {iv : Value} {I : List JT} (h : ItemsRow w B ok iv I) (hok : ∀ q, ok q → B ≤ q) :
    ∃ cs, CellsAt w (fun q => B ≤ q) iv I.length cs ∧ ∀ j (h : j < I.length), TreeAt w (fun q => B ≤ q) (cs j) I[j] := by
  obtain ⟨cs, h7, hown, ht⟩ := h
  refine ⟨cs, ?_, fun j hj => (ht j hj).move fun q hq _ => ⟨hok q hq, rfl⟩⟩
  rcases Nat.eq_zero_or_pos I.length with h0 | h0
  · obtain ⟨A, c, rfl⟩ := own_slice hown
    exact ⟨A, c, rfl, h7, fun hp => by omega⟩
  · obtain ⟨q, cap, rfl, hb, _⟩ := hown.form h0
    refine ⟨_, cap, rfl, h7, fun _ => ⟨q, rfl, hb, fun j hj i hi => ?_⟩⟩
    have := hown.cells (g := q) rfl (j * 7 + i) _ ((flat_at cs I.length h7).2 j hj i hi)
    rwa [add_plain] at this
theorem ItemsRow.move {w w' : World} {B : Nat} {ok ok' : Nat → Prop} {iv : Value} {I : List JT} (h : ItemsRow w B ok iv I)
    (hm : ∀ q, ok q → q < w.heap.size → ok' q ∧ w'.heap[q]? = w.heap[q]?) (hown : ∀ xs, w.ownsRow B 25 7 iv I.length xs → w'.ownsRow B 25 7 iv I.length xs) : ItemsRow w' B ok' iv I := by
  obtain ⟨cs, h7, ho, ht⟩ := h
  exact ⟨cs, h7, hown _ ho, fun j hj => (ht j hj).move hm⟩
end Go.Proofs.YtldfejbmdonaoaaDoor.Tw