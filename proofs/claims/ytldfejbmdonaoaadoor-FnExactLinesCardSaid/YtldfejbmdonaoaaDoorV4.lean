/- Joined by a program of mine from texts of this claim: Tw, WTab, WFour, WFootNe, WAt, WEqStruct, WRepsOne, WInv, WInvWords, WGuard, Sp0. -/
import Derived.Test.YtldfejbmdonaoaaDoorV3
import Derived.Test.YtldfejbmdonaoaaDoorV2
import Derived.Test.YtldfejbmdonaoaaDoorV1
import Derived.Laws.StructEq
import Derived.Test.YtldfejbmdonaoaaDoorProg
import Derived.Below
import Derived.Deep.Draws
import Derived.Deep.AppendLies
import Derived.Maps.AppendAt
import Derived.OwnWalk
import Derived.Laws.BytesArg
import Derived.Laws.MakeOwn
import Derived.Laws.OwnMore
import Derived.Deep.OwnRows
import Derived.Tactics
import Derived.Lib.ConvBytes
import Derived.Laws.Slices
import Derived.WalkKit
import Derived.KernelRfl
import Derived.RowKit3
import Derived.Deep.LoopGhost
import Derived.Deep.QuietTactic
import Derived.BigQuiet
import Derived.WideLaws
import Derived.Deep.DeepCutAuto
import Derived.Deep.CutBlock
import Derived.Deep.RegionHeld3
import Derived.Laws.Rows
import Derived.Lib.AppendStr
import Derived.ArgAppend
import Derived.Laws.IdiomCopy
import Derived.OrdersHeld
import Derived.Laws.BitsLemmas
import Derived.RowKit
namespace Go.Proofs.YtldfejbmdonaoaaDoor.Tw
open Go.RowKit YtldfejbmdonaoaaDoorW.PrintWords YtldfejbmdonaoaaDoorW.PrintLast YtldfejbmdonaoaaDoorW.PrintMore
set_option linter.unusedVariables false
inductive JT where
  | mk (kind : Int) (raw : ByteArray) (place : Int) (str : ByteArray) (pairs : Bool) (keys : List ByteArray) (items : List JT)
def JT.kind : JT → Int | .mk k _ _ _ _ _ _ => k
def JT.raw : JT → ByteArray | .mk _ r _ _ _ _ _ => r
def JT.place : JT → Int | .mk _ _ a _ _ _ _ => a
def JT.str : JT → ByteArray | .mk _ _ _ s _ _ _ => s
def JT.pairs : JT → Bool | .mk _ _ _ _ p _ _ => p
def JT.keys : JT → List ByteArray | .mk _ _ _ _ _ k _ => k
def JT.items : JT → List JT | .mk _ _ _ _ _ _ i => i
def cells7 (k : Int) (r : ByteArray) (a : Int) (s : ByteArray) (p : Bool) (kv iv : Value) : List Value := [.int .i64 k, .string r, .int .i64 a, .string s, .bool p, kv, iv]
def StrsAt (w : World) (ok : Nat → Prop) (v : Value) (K : List ByteArray) : Prop :=
  ∃ A c, v = .slice A K.length c ∧ (K.length ≤ c ∧ c ≤ maxLen) ∧ (0 < K.length → ∃ q, A = some ⟨q, 0, none⟩ ∧ ok q ∧ ∀ j (h : j < K.length), w.cell? ⟨q, j, none⟩ = some (.string K[j]))
def CellsAt (w : World) (ok : Nat → Prop) (v : Value) (n : Nat) (cs : Nat → List Value) : Prop :=
  ∃ A c, v = .slice A n c ∧ n ≤ maxLen ∧ (∀ j, j < n → (cs j).length = 7) ∧ (0 < n → ∃ q, A = some ⟨q, 0, none⟩ ∧ ok q ∧ ∀ j, j < n → ∀ i (h : i < (cs j).length), w.cell? ⟨q, j * 7 + i, none⟩ = some (cs j)[i])
inductive TreeAt (w : World) (ok : Nat → Prop) : List Value → JT → Prop where
  | mk (k : Int) (r : ByteArray) (a : Int) (s : ByteArray) (p : Bool) (kv iv : Value) (K : List ByteArray) (I : List JT) (cs : Nat → List Value)
      (hk : StrsAt w ok kv K) (hc : CellsAt w ok iv I.length cs) (hi : ∀ j (h : j < I.length), TreeAt w ok (cs j) I[j]) : TreeAt w ok (cells7 k r a s p kv iv) (.mk k r a s p K I)
theorem lt_of_cell {w : World} {q j : Nat} {v : Value} (h : w.cell? ⟨q, j, none⟩ = some v) : q < w.heap.size := World.block_lt_of_cell? w ⟨q, j, none⟩ h
theorem cell_same {w w' : World} {q j : Nat} {v : Value} (h : w.cell? ⟨q, j, none⟩ = some v) (e : w'.heap[q]? = w.heap[q]?) : w'.cell? ⟨q, j, none⟩ = some v := (World.cell?_of_block (a := ⟨q, j, none⟩) e).trans h
theorem StrsAt.move {w w' : World} {ok ok' : Nat → Prop} {v : Value} {K : List ByteArray} (h : StrsAt w ok v K)
    (hm : ∀ q, ok q → q < w.heap.size → ok' q ∧ w'.heap[q]? = w.heap[q]?) : StrsAt w' ok' v K := by
  obtain ⟨A, c, hv, hle, hc⟩ := h
  refine ⟨A, c, hv, hle, fun h0 => ?_⟩
  obtain ⟨q, hA, hq, hcell⟩ := hc h0
  obtain ⟨h1, h2⟩ := hm q hq (lt_of_cell (hcell 0 h0))
  exact ⟨q, hA, h1, fun j hj => cell_same (hcell j hj) h2⟩
theorem CellsAt.move {w w' : World} {ok ok' : Nat → Prop} {v : Value} {n : Nat} {cs : Nat → List Value} (h : CellsAt w ok v n cs)
    (hm : ∀ q, ok q → q < w.heap.size → ok' q ∧ w'.heap[q]? = w.heap[q]?) : CellsAt w' ok' v n cs := by
  obtain ⟨A, c, hv, hmx, h7, hc⟩ := h
  refine ⟨A, c, hv, hmx, h7, fun h0 => ?_⟩
  obtain ⟨q, hA, hq, hcell⟩ := hc h0
  obtain ⟨h1, h2⟩ := hm q hq (lt_of_cell (hcell 0 h0 0 (by rw [h7 0 h0]; omega)))
  exact ⟨q, hA, h1, fun j hj i hi => cell_same (hcell j hj i hi) h2⟩
theorem TreeAt.move {w w' : World} {ok ok' : Nat → Prop} {cs : List Value} {T : JT} (h : TreeAt w ok cs T)
    (hm : ∀ q, ok q → q < w.heap.size → ok' q ∧ w'.heap[q]? = w.heap[q]?) : TreeAt w' ok' cs T := by
  induction h with
  | mk k r a s p kv iv K I cs hk hc _ ih => exact .mk k r a s p kv iv K I cs (hk.move hm) (hc.move hm) ih
def KeysRow (w : World) (B : Nat) (kv : Value) (K : List ByteArray) : Prop := w.ownsRow B 9 1 kv K.length (pw_strs K)
def ItemsRow (w : World) (B : Nat) (ok : Nat → Prop) (iv : Value) (I : List JT) : Prop :=
  ∃ cs : Nat → List Value, (∀ j, j < I.length → (cs j).length = 7) ∧ w.ownsRow B 25 7 iv I.length ((List.range I.length).flatMap cs) ∧ ∀ j (h : j < I.length), TreeAt w ok (cs j) I[j]
theorem KeysRow.nil (w : World) (B : Nat) : KeysRow w B (.slice none 0 0) [] := World.ownsRow_nil w B _ 1
theorem ItemsRow.nil (w : World) (B : Nat) (ok : Nat → Prop) : ItemsRow w B ok (.slice none 0 0) [] :=
  ⟨fun _ => [], fun j h => absurd h (Nat.not_lt_zero j), World.ownsRow_nil w B _ 7, fun j h => absurd h (Nat.not_lt_zero j)⟩
theorem KeysRow.strs {w : World} {B : Nat} {kv : Value} {K : List ByteArray} (h : KeysRow w B kv K) : StrsAt w (fun q => B ≤ q) kv K := by
  have hle : ∃ A c, kv = .slice A K.length c ∧ K.length ≤ c ∧ c ≤ maxLen := by
    rcases h.2 with ⟨e, h0⟩ | ⟨g, cap, cur, e, _, _, hn, hm, _⟩
    · exact ⟨none, 0, by rw [e, h0], by rw [h0]; exact Nat.le_refl _, Nat.zero_le _⟩
    · exact ⟨_, cap, e, hn, hm⟩
  obtain ⟨A, c, rfl, hle⟩ := hle
  refine ⟨A, c, rfl, hle, fun h0 => ?_⟩
  obtain ⟨q, cap, e, hb, _⟩ := h.form h0
  injection e with e1 e2 e3
  subst e1
  refine ⟨q, rfl, hb, fun j hj => ?_⟩
  have := h.cells (g := q) rfl j (.string K[j]) (by simp [pw_strs, hj])
  rwa [add_plain] at this
theorem flat_at (cs : Nat → List Value) : ∀ (n : Nat) (_ : ∀ j, j < n → (cs j).length = 7), ((List.range n).flatMap cs).length = n * 7 ∧ ∀ j, j < n → ∀ i (h : i < (cs j).length), ((List.range n).flatMap cs)[j * 7 + i]? = some (cs j)[i]
  | 0, _ => ⟨by simp, fun j h => absurd h (Nat.not_lt_zero j)⟩
  | n + 1, h7 => by
    obtain ⟨hl, hat⟩ := flat_at cs n fun j hj => h7 j (by omega)
    have e : (List.range (n + 1)).flatMap cs = (List.range n).flatMap cs ++ cs n := by simp [List.range_succ, List.flatMap_append]
    refine ⟨by rw [e, List.length_append, hl, h7 n (by omega)]; omega, fun j hj i hi => ?_⟩
    rw [e]
    rcases Nat.lt_or_ge j n with h | h
    · rw [List.getElem?_append_left (by have := h7 j hj; omega)]
      exact hat j h i hi
    · obtain rfl : j = n := by omega
      rw [List.getElem?_append_right (by omega), hl, Nat.add_sub_cancel_left]
      exact List.getElem?_eq_getElem hi
theorem ItemsRow.cells {w : World} {B : Nat} {ok : Nat → Prop} {iv : Value} {I : List JT} (h : ItemsRow w B ok iv I) (hok : ∀ q, ok q → B ≤ q) :
    ∃ cs, CellsAt w (fun q => B ≤ q) iv I.length cs ∧ ∀ j (h : j < I.length), TreeAt w (fun q => B ≤ q) (cs j) I[j] := by
  obtain ⟨cs, h7, hown, ht⟩ := h
  refine ⟨cs, ?_, fun j hj => (ht j hj).move fun q hq _ => ⟨hok q hq, rfl⟩⟩
  have hmx : I.length ≤ maxLen := by
    rcases hown.2 with ⟨_, h0⟩ | ⟨g, cap, cur, e, _, _, hn, hm, _⟩
    · rw [h0]; exact Nat.zero_le _
    · exact Nat.le_trans hn hm
  rcases Nat.eq_zero_or_pos I.length with h0 | h0
  · obtain ⟨A, c, rfl⟩ := own_slice hown
    exact ⟨A, c, rfl, hmx, h7, fun hp => by omega⟩
  · obtain ⟨q, cap, rfl, hb, _⟩ := hown.form h0
    refine ⟨_, cap, rfl, hmx, h7, fun _ => ⟨q, rfl, hb, fun j hj i hi => ?_⟩⟩
    have := hown.cells (g := q) rfl (j * 7 + i) _ ((flat_at cs I.length h7).2 j hj i hi)
    rwa [add_plain] at this
theorem items_snoc {w w' : World} {B : Nat} {ok ok' : Nat → Prop} {iv' : Value} {I : List JT} {c : List Value} {T : JT} {cs : Nat → List Value}
    (h7 : ∀ j, j < I.length → (cs j).length = 7) (ht : ∀ j (h : j < I.length), TreeAt w ok (cs j) I[j])
    (hm : ∀ q, ok q → q < w.heap.size → ok' q ∧ w'.heap[q]? = w.heap[q]?) (hT : TreeAt w ok c T) (hc : c.length = 7)
    (hown : w'.ownsRow B 25 7 iv' (I.length + 1) ((List.range I.length).flatMap cs ++ c)) :
    ItemsRow w' B ok' iv' (I ++ [T]) := by
  refine ⟨fun j => if j < I.length then cs j else c, fun j hj => ?_, ?_, fun j hj => ?_⟩
  · dsimp only
    split
    · rename_i h; exact h7 j h
    · exact hc
  · have e : (List.range (I ++ [T]).length).flatMap (fun j => if j < I.length then cs j else c) = (List.range I.length).flatMap cs ++ c := by
      rw [List.length_append, List.length_singleton, List.range_succ, List.flatMap_append]
      congr 1
      · simp only [List.flatMap_def]
        congr 1
        exact List.map_congr_left fun j hj => by rw [if_pos (List.mem_range.mp hj)]
      · simp
    rw [e, List.length_append, List.length_singleton]
    exact hown
  · dsimp only
    by_cases h : j < I.length
    · rw [if_pos h, List.getElem_append_left h]
      exact (ht j h).move hm
    · have : j = I.length := by rw [List.length_append, List.length_singleton] at hj; omega
      subst this
      rw [if_neg h]
      simpa using hT.move hm
theorem own_keep {w w' : World} {B : Nat} {e : TypeId} {size n : Nat} {v : Value} {xs : List Value} (h : w.ownsRow B e size v n xs) (hk : ∀ q, v.ownBlock = some q → w'.heap[q]? = w.heap[q]?) : w'.ownsRow B e size v n xs := by
  refine ⟨h.1, ?_⟩
  rcases h.2 with hn | ⟨g, cap, cur, rfl, hb, hgg, rest⟩
  · exact .inl hn
  · exact .inr ⟨g, cap, cur, rfl, hb, (hk g rfl).trans hgg, rest⟩
theorem ItemsRow.move {w w' : World} {B : Nat} {ok ok' : Nat → Prop} {iv : Value} {I : List JT} (h : ItemsRow w B ok iv I)
    (hm : ∀ q, ok q → q < w.heap.size → ok' q ∧ w'.heap[q]? = w.heap[q]?) (hown : ∀ xs, w.ownsRow B 25 7 iv I.length xs → w'.ownsRow B 25 7 iv I.length xs) : ItemsRow w' B ok' iv I := by
  obtain ⟨cs, h7, ho, ht⟩ := h
  exact ⟨cs, h7, hown _ ho, fun j hj => (ht j hj).move hm⟩
end Go.Proofs.YtldfejbmdonaoaaDoor.Tw
namespace Go.Proofs.YtldfejbmdonaoaaDoorW.PrintLast
open YtldfejbmdonaoaaDoorW.PrintWords (Aside0)
section
variable {md : Region.Mode} {ops : Array Oper} {T : Bool × List (List Nat × List Nat)} {l l' li lj lk : Array Bool} {ds : List Nat} {i j k : Nat}
end
end Go.Proofs.YtldfejbmdonaoaaDoorW.PrintLast
namespace Go.Proofs.YtldfejbmdonaoaaDoorW.PrintLast
section
variable {P : Program} {ops : Array Oper} {Q : Exit → Act → World → Prop} {md : Region.Mode} {S : World → Prop} {ds : List Nat} {T : Bool × List (List Nat × List Nat)}
end
end Go.Proofs.YtldfejbmdonaoaaDoorW.PrintLast
namespace Go.Proofs.YtldfejbmdonaoaaDoorW.PrintWords
open Go.RowKit
namespace Kd
section
variable {α : Type} {d : Kd α} {W : World} {g n : Nat} {S ok : Nat → Prop} {A : Option Addr} {ad : Addr} {xs : List α}
end
end Kd
end Go.Proofs.YtldfejbmdonaoaaDoorW.PrintWords
namespace Go.Proofs.YtldfejbmdonaoaaDoorW.PrintWords
open Go.RowKit
section
variable {w w' u : World} {m B g : Nat} {o : Obj} {row : Option Nat} {S : Nat → Prop} {a : Addr} {v : Value}
end
namespace Kd
section
variable {α : Type} {d : Kd α} {e base n m : Nat} {ok : Nat → Prop} {w w' : World} {v : Value} {A : Option Addr} {xs : List α}
end
end Kd
end Go.Proofs.YtldfejbmdonaoaaDoorW.PrintWords
namespace Go.Proofs.YtldfejbmdonaoaaDoorW.PrintWords
open Go.RowKit
section
variable {P : Program} {d : Nat} {xs ys : Array Value} {f : Field} {fs : List Field} {a b : Value} {r s : Bool} {w : World}
end
end Go.Proofs.YtldfejbmdonaoaaDoorW.PrintWords
namespace Go.Proofs.YtldfejbmdonaoaaDoorW.PrintWords
theorem Reps.one {α : Type} {R : α → List Value → Prop} {ps : List α} {cs : List Value} {p : α} {v : Value} (hp : R p [v]) (h : Reps R 1 ps cs) : Reps R 1 (p :: ps) (v :: cs) := by
  refine ⟨by simp [h.1], fun j q hq => ?_⟩
  cases j with
  | zero =>
    simp only [List.getElem?_cons_zero, Option.some.injEq] at hq
    subst hq
    simpa using hp
  | succ j =>
    simp only [List.getElem?_cons_succ] at hq
    have h1 := h.2 j q hq
    simpa [Nat.mul_one] using h1
theorem Reps.front {α : Type} {R : α → List Value → Prop} {size : Nat} {ps : List α} {cs c all : List Value} {p : α} (hp : R p c) (hc : c.length = size) (h : Reps R size ps cs) (ha : c ++ cs = all) : Reps R size (p :: ps) all := by
  subst ha
  refine ⟨by rw [List.length_append, hc, h.1, List.length_cons, Nat.succ_mul, Nat.add_comm], fun j q hq => ?_⟩
  cases j with
  | zero =>
    simp only [List.getElem?_cons_zero, Option.some.injEq] at hq
    subst hq
    rw [Nat.zero_mul, List.drop_zero, List.take_append_of_le_length (by omega), List.take_of_length_le (by omega)]
    exact hp
  | succ j =>
    simp only [List.getElem?_cons_succ] at hq
    have h1 := h.2 j q hq
    rw [Nat.succ_mul, List.drop_append, List.drop_of_length_le (by rw [hc]; exact Nat.le_add_left _ _), List.nil_append, hc, Nat.add_sub_cancel]
    exact h1
theorem Reps.c2 {α : Type} {R : α → List Value → Prop} {ps : List α} {cs : List Value} {p : α} {va vb : Value} (hp : R p [va, vb]) (h : Reps R 2 ps cs) : Reps R 2 (p :: ps) (va :: vb :: cs) := Reps.front hp rfl h rfl
theorem Reps.c3 {α : Type} {R : α → List Value → Prop} {ps : List α} {cs : List Value} {p : α} {va vb vc : Value} (hp : R p [va, vb, vc]) (h : Reps R 3 ps cs) : Reps R 3 (p :: ps) (va :: vb :: vc :: cs) := Reps.front hp rfl h rfl
theorem Reps.c4 {α : Type} {R : α → List Value → Prop} {ps : List α} {cs : List Value} {p : α} {va vb vc vd : Value} (hp : R p [va, vb, vc, vd]) (h : Reps R 4 ps cs) : Reps R 4 (p :: ps) (va :: vb :: vc :: vd :: cs) := Reps.front hp rfl h rfl
theorem Reps.c5 {α : Type} {R : α → List Value → Prop} {ps : List α} {cs : List Value} {p : α} {va vb vc vd ve : Value} (hp : R p [va, vb, vc, vd, ve]) (h : Reps R 5 ps cs) : Reps R 5 (p :: ps) (va :: vb :: vc :: vd :: ve :: cs) := Reps.front hp rfl h rfl
theorem Reps.c6 {α : Type} {R : α → List Value → Prop} {ps : List α} {cs : List Value} {p : α} {va vb vc vd ve vf : Value} (hp : R p [va, vb, vc, vd, ve, vf]) (h : Reps R 6 ps cs) : Reps R 6 (p :: ps) (va :: vb :: vc :: vd :: ve :: vf :: cs) := Reps.front hp rfl h rfl
theorem Reps.c7 {α : Type} {R : α → List Value → Prop} {ps : List α} {cs : List Value} {p : α} {va vb vc vd ve vf vg : Value} (hp : R p [va, vb, vc, vd, ve, vf, vg]) (h : Reps R 7 ps cs) : Reps R 7 (p :: ps) (va :: vb :: vc :: vd :: ve :: vf :: vg :: cs) := Reps.front hp rfl h rfl
theorem Reps.c8 {α : Type} {R : α → List Value → Prop} {ps : List α} {cs : List Value} {p : α} {va vb vc vd ve vf vg vh : Value} (hp : R p [va, vb, vc, vd, ve, vf, vg, vh]) (h : Reps R 8 ps cs) : Reps R 8 (p :: ps) (va :: vb :: vc :: vd :: ve :: vf :: vg :: vh :: cs) := Reps.front hp rfl h rfl
theorem Reps.c9 {α : Type} {R : α → List Value → Prop} {ps : List α} {cs : List Value} {p : α} {va vb vc vd ve vf vg vh vi : Value} (hp : R p [va, vb, vc, vd, ve, vf, vg, vh, vi]) (h : Reps R 9 ps cs) : Reps R 9 (p :: ps) (va :: vb :: vc :: vd :: ve :: vf :: vg :: vh :: vi :: cs) := Reps.front hp rfl h rfl
theorem Reps.c10 {α : Type} {R : α → List Value → Prop} {ps : List α} {cs : List Value} {p : α} {va vb vc vd ve vf vg vh vi vj : Value} (hp : R p [va, vb, vc, vd, ve, vf, vg, vh, vi, vj]) (h : Reps R 10 ps cs) : Reps R 10 (p :: ps) (va :: vb :: vc :: vd :: ve :: vf :: vg :: vh :: vi :: vj :: cs) := Reps.front hp rfl h rfl
end Go.Proofs.YtldfejbmdonaoaaDoorW.PrintWords
namespace Go.Proofs.YtldfejbmdonaoaaDoorW.PrintLast
section
variable {P : Program} {ops : Array Oper} {Q : Exit → Act → World → Prop} {md : Region.Mode} {T : Bool × List (List Nat × List Nat)} {B : List Nat} {O : List Nat} {b : Nat → Bool} {i j n : Nat}
end
end Go.Proofs.YtldfejbmdonaoaaDoorW.PrintLast
namespace Go.Proofs.YtldfejbmdonaoaaDoorW.PrintWords
open Go.RowKit
theorem own_apart {v1 v2 : Value} {n : Nat} (hlt : ∀ k, v1.ownBlock = some k → k < n) (hge : ∀ k, v2.ownBlock = some k → n ≤ k) : v1.ownBlock = none ∨ v1.ownBlock ≠ v2.ownBlock := by
  cases h : v1.ownBlock with
  | none => exact .inl rfl
  | some k => exact .inr (fun e => by have := hlt k h; have := hge k e.symm; omega)
end Go.Proofs.YtldfejbmdonaoaaDoorW.PrintWords
namespace Go.Proofs.YtldfejbmdonaoaaDoorW.PrintLast
section
variable {ops : Array Oper} {a : Act} {o og : Oper} {g : Nat} {t : Tmp} {u : Bool}
end
end Go.Proofs.YtldfejbmdonaoaaDoorW.PrintLast
namespace Go.Proofs.YtldfejbmdonaoaaDoorW.PrintWords
open Go.RowKit
section
variable {P : Program} {ops : Array Oper} {rest : List Oper} {o : Oper} {a : Act} {Q : Exit → Act → World → Prop} {W : World}
end
end Go.Proofs.YtldfejbmdonaoaaDoorW.PrintWords
namespace Go.Proofs.YtldfejbmdonaoaaDoor.Sp
open Go.RowKit YtldfejbmdonaoaaDoorW.PrintWords YtldfejbmdonaoaaDoorW.PrintLast YtldfejbmdonaoaaDoorW.PrintMore
attribute [local go_sem] max2_int min2_int max_two min_two max_three min_three max_four min_four   -- for this text's walks alone
set_option linter.unusedVariables false
set_option linter.unusedSimpArgs false
def errW : Option Int → Value
  | none => .nilIface
  | some c => .iface 0 (.int .i64 c)
theorem errW_none : errW none = .nilIface := rfl
theorem errW_some (c : Int) : errW (some c) = .iface 0 (.int .i64 c) := rfl
theorem info5 : (Tryd.prog.info? 5).map (fun i => (i.zero, i.size, i.bytes)) = some (some (.int .u8 0), 1, 1) := by kernel_rfl
end Go.Proofs.YtldfejbmdonaoaaDoor.Sp