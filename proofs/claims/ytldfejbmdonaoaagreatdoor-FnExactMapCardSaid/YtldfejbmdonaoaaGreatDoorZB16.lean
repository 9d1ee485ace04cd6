/- Joined by a program of mine from texts of this claim: Pz, Tw. -/
import Derived.Test.YtldfejbmdonaoaaGreatDoorZB15
import Derived.Test.YtldfejbmdonaoaaGreatDoorZB2
namespace Go.Proofs.YtldfejbmdonaoaaGreatDoor.Pz
open Go.RowKit YtldfejbmdonaoaaGreatDoorW.PrintWords YtldfejbmdonaoaaGreatDoorW.PrintLast YtldfejbmdonaoaaGreatDoorW.PrintMore At
set_option linter.unusedVariables false
set_option linter.unusedSimpArgs false
structure ErrVars (W : World) (lim : Nat) : Prop where
  mk :: (out : 3 < lim ∧ 4 < lim ∧ (∃ t p, W.cell? ⟨3, 0, none⟩ = some (.iface t p)) ∧ (∃ t p, W.cell? ⟨4, 0, none⟩ = some (.iface t p)))
theorem ErrVars.below {W W' : World} {lim : Nat} (h : ErrVars W lim) (hb : Below lim W W') : ErrVars W' lim := by
  obtain ⟨h1, h2, ⟨t, p, h3⟩, ⟨t', p', h4⟩⟩ := h.out
  exact ⟨h1, h2, ⟨t, p, by rw [hb.cell (p := ⟨_, 0, none⟩) h1]; exact h3⟩, ⟨t', p', by rw [hb.cell (p := ⟨_, 0, none⟩) h2]; exact h4⟩⟩
theorem ErrVars.mono {W : World} {lim lim' : Nat} (h : ErrVars W lim) (hl : lim ≤ lim') : ErrVars W lim' := by
  obtain ⟨h1, h2, r⟩ := h.out
  exact ⟨by omega, by omega, r⟩
set_option maxRecDepth 100000 in
set_option maxHeartbeats 4000000 in
theorem prefix_walk (s : ByteArray) (w : World) (hN : NumS s) (hT : Tabs w w.heap.size) :
    Calls Tryz.prog 74 #[.string s, .int .i64 64] w (AtPost s w) := by
  have HA := Aside0.mk (atof64_walk s w hN hT)
  clear hN hT
  go_enter Tryz.func74, Tryz.ntmps74
  go_wp2_with fail
  refine HA.out.mono ?_
  rintro e w1 ⟨x, n, er, rfl, her, hb⟩
  have HE := Aside0.mk her
  have HB := Aside0.mk hb
  clear her hb
  go_wp2
  go_ret3
  exact ⟨x, n, er, rfl, HE.out, HB.out⟩
def FlPost (s : ByteArray) (w : World) (e : Ending) (w' : World) : Prop := ∃ (x : Nat) (er : Value), e = .returned (.tuple #[.float .f64 x, er]) ∧ (ErrW er ∧ ExactV s x (s.size : Int) er) ∧ Below w.heap.size w w'
set_option maxRecDepth 100000 in
set_option maxHeartbeats 4000000 in
theorem inner_walk (s : ByteArray) (w : World) (hN : NumS s) (hT : Tabs w w.heap.size) :
    Calls Tryz.prog 61 #[.string s, .int .i64 64] w (FlPost s w) := by
  have HA := Aside0.mk (prefix_walk s w hN hT)
  clear hN hT
  go_enter Tryz.func61, Tryz.ntmps61
  go_wp2_with fail
  refine HA.out.mono ?_
  rintro e w1 ⟨x, n, er, rfl, her, hb⟩
  have HE := Aside0.mk her
  have HB := Aside0.mk hb
  clear her hb
  by_cases hn : n = (s.size : Int)
  · have d1 : (n != (s.size : Int)) = false := bne_eq_false_iff_eq.mpr hn
    clear hn
    go_wp2
    go_ret2
    exact ⟨x, er, rfl, ⟨HE.out.1, fun j hj h1 h2 => ⟨(HE.out.2.1 j hj h1 h2).1, rfl, (HE.out.2.1 j hj h1 h2).2.2⟩, fun j hj h1 h2 => ⟨(HE.out.2.2 j hj h1 h2).1, rfl, (HE.out.2.2 j hj h1 h2).2.2⟩⟩, HB.out⟩
  · have d1 : (n != (s.size : Int)) = true := bne_iff_ne.mpr hn
    have HNN := Aside0.mk hn
    clear hn
    go_wp2
    go_ret2
    exact ⟨_, _, rfl, ⟨.inr (.inr rfl), fun j hj h1 h2 => absurd (HE.out.2.1 j hj h1 h2).2.1 HNN.out, fun j hj h1 h2 => absurd (HE.out.2.2 j hj h1 h2).2.1 HNN.out⟩, HB.out⟩
def PFPost (s : ByteArray) (w : World) (e : Ending) (w' : World) : Prop := ∃ (x : Nat) (er : Value), e = .returned (.tuple #[.float .f64 x, er]) ∧ ExactX s x ∧ Below w.heap.size w w'
set_option maxRecDepth 100000 in
set_option maxHeartbeats 4000000 in
theorem float_walk (s : ByteArray) (w : World) (hN : NumS s) (hT : Tabs w w.heap.size) (hV : ErrVars w w.heap.size) :
    Calls Tryz.prog 55 #[.string s, .int .i64 64] w (PFPost s w) := by
  have HA := Aside0.mk (inner_walk s w hN hT)
  have HS := Aside0.mk (show s.size ≤ 281474976710656 by have := hN.size; omega)
  have HV := Aside0.mk hV
  clear hN hT hV
  go_enter Tryz.func55, Tryz.ntmps55
  go_wp2_with fail
  refine HA.out.mono ?_
  rintro e w1 ⟨x, er, rfl, ⟨her, hexv⟩, hb⟩
  have HEX := Aside0.mk (show ExactX s x from ⟨fun j hj h1 h2 => (hexv.1 j hj h1 h2).1, fun j hj h1 h2 => (hexv.2 j hj h1 h2).1⟩)
  have HB := Aside0.mk hb
  obtain ⟨_, _, ⟨t1, p1, hv1⟩, ⟨t2, p2, hv2⟩⟩ := (HV.out.below hb).out
  have HV1 := Aside0.mk hv1
  have HV2 := Aside0.mk hv2
  clear hb hv1 hv2 hexv
  rcases her with rfl | rfl | rfl
  · go_wp2
    go_ret2
    exact ⟨x, _, rfl, HEX.out, HB.out⟩
  · go_wp2_with fail
    refine (Sw.strconv_toError_range _ s _ _ _ w1 HS.out HV2.out (.inr ⟨_, _, rfl⟩)).mono ?_
    rintro e w2 ⟨N, rfl, _, _, hb⟩
    have HB2 := Aside0.mk (below_then HB.out HB.out.size hb)
    clear hb
    go_wp2
    go_ret2
    exact ⟨x, _, rfl, HEX.out, HB2.out⟩
  · go_wp2_with fail
    refine (Sw.strconv_toError_syntax _ s _ _ _ w1 HS.out HV1.out (.inr ⟨_, _, rfl⟩)).mono ?_
    rintro e w2 ⟨N, rfl, _, _, hb⟩
    have HB2 := Aside0.mk (below_then HB.out HB.out.size hb)
    clear hb
    go_wp2
    go_ret2
    exact ⟨x, _, rfl, HEX.out, HB2.out⟩
end Go.Proofs.YtldfejbmdonaoaaGreatDoor.Pz
namespace Go.Proofs.YtldfejbmdonaoaaGreatDoor.Tw
open Go.RowKit YtldfejbmdonaoaaGreatDoorW.PrintWords YtldfejbmdonaoaaGreatDoorW.PrintLast YtldfejbmdonaoaaGreatDoorW.PrintMore
set_option linter.unusedVariables false
inductive JT where
  | mk (kind : Int) (raw : ByteArray) (place : Int) (str : ByteArray) (pairs : Bool) (keys : List ByteArray) (items : List JT)
def JT.kind : JT → Int | .mk k _ _ _ _ _ _ => k
def JT.raw : JT → ByteArray | .mk _ r _ _ _ _ _ => r
def JT.place : JT → Int | .mk _ _ a _ _ _ _ => a
def JT.str : JT → ByteArray | .mk _ _ _ s _ _ _ => s
def JT.pairs : JT → Bool | .mk _ _ _ _ p _ _ => p
def JT.keys : JT → List ByteArray | .mk _ _ _ _ _ k _ => k
def JT.items : JT → List JT | .mk _ _ _ _ _ _ i => i
def cells7 (k : Int) (r : ByteArray) (a : Int) (s : ByteArray) (p : Bool) (kv iv : Value) : List Value := [.int .i64 k, .string r, .int .i64 a, .string s, .bool p, kv, iv]
def StrsAt (w : World) (ok : Nat → Prop) (v : Value) (K : List ByteArray) : Prop :=
  ∃ A c, v = .slice A K.length c ∧ (K.length ≤ c ∧ c ≤ maxLen) ∧ (0 < K.length → ∃ q, A = some ⟨q, 0, none⟩ ∧ ok q ∧ ∀ j (h : j < K.length), w.cell? ⟨q, j, none⟩ = some (.string K[j]))
def CellsAt (w : World) (ok : Nat → Prop) (v : Value) (n : Nat) (cs : Nat → List Value) : Prop :=
  ∃ A c, v = .slice A n c ∧ n ≤ maxLen ∧ (∀ j, j < n → (cs j).length = 7) ∧ (0 < n → ∃ q, A = some ⟨q, 0, none⟩ ∧ ok q ∧ ∀ j, j < n → ∀ i (h : i < (cs j).length), w.cell? ⟨q, j * 7 + i, none⟩ = some (cs j)[i])
inductive TreeAt (w : World) (ok : Nat → Prop) : List Value → JT → Prop where
  | mk (k : Int) (r : ByteArray) (a : Int) (s : ByteArray) (p : Bool) (kv iv : Value) (K : List ByteArray) (I : List JT) (cs : Nat → List Value)
      (hk : StrsAt w ok kv K) (hc : CellsAt w ok iv I.length cs) (hi : ∀ j (h : j < I.length), TreeAt w ok (cs j) I[j]) : TreeAt w ok (cells7 k r a s p kv iv) (.mk k r a s p K I)
theorem lt_of_cell {w : World} {q j : Nat} {v : Value} (h : w.cell? ⟨q, j, none⟩ = some v) : q < w.heap.size := World.block_lt_of_cell? w ⟨q, j, none⟩ h
theorem cell_same {w w' : World} {q j : Nat} {v : Value} (h : w.cell? ⟨q, j, none⟩ = some v) (e : w'.heap[q]? = w.heap[q]?) : w'.cell? ⟨q, j, none⟩ = some v := (World.cell?_of_block (a := ⟨q, j, none⟩) e).trans h
theorem StrsAt.move {w w' : World} {ok ok' : Nat → Prop} {v : Value} {K : List ByteArray} (h : StrsAt w ok v K)
    (hm : ∀ q, ok q → q < w.heap.size → ok' q ∧ w'.heap[q]? = w.heap[q]?) : StrsAt w' ok' v K := by
  obtain ⟨A, c, hv, hle, hc⟩ := h
  refine ⟨A, c, hv, hle, fun h0 => ?_⟩
  obtain ⟨q, hA, hq, hcell⟩ := hc h0
  obtain ⟨h1, h2⟩ := hm q hq (lt_of_cell (hcell 0 h0))
  exact ⟨q, hA, h1, fun j hj => cell_same (hcell j hj) h2⟩
theorem CellsAt.move {w w' : World} {ok ok' : Nat → Prop} {v : Value} {n : Nat} {cs : Nat → List Value} (h : CellsAt w ok v n cs)
    (hm : ∀ q, ok q → q < w.heap.size → ok' q ∧ w'.heap[q]? = w.heap[q]?) : CellsAt w' ok' v n cs := by
  obtain ⟨A, c, hv, hmx, h7, hc⟩ := h
  refine ⟨A, c, hv, hmx, h7, fun h0 => ?_⟩
  obtain ⟨q, hA, hq, hcell⟩ := hc h0
  obtain ⟨h1, h2⟩ := hm q hq (lt_of_cell (hcell 0 h0 0 (by rw [h7 0 h0]; omega)))
  exact ⟨q, hA, h1, fun j hj i hi => cell_same (hcell j hj i hi) h2⟩
theorem TreeAt.move {w w' : World} {ok ok' : Nat → Prop} {cs : List Value} {T : JT} (h : TreeAt w ok cs T)
    (hm : ∀ q, ok q → q < w.heap.size → ok' q ∧ w'.heap[q]? = w.heap[q]?) : TreeAt w' ok' cs T := by
  induction h with
  | mk k r a s p kv iv K I cs hk hc _ ih => exact .mk k r a s p kv iv K I cs (hk.move hm) (hc.move hm) ih
def KeysRow (w : World) (B : Nat) (kv : Value) (K : List ByteArray) : Prop := w.ownsRow B 9 1 kv K.length (pw_strs K)
def ItemsRow (w : World) (B : Nat) (ok : Nat → Prop) (iv : Value) (I : List JT) : Prop :=
  ∃ cs : Nat → List Value, (∀ j, j < I.length → (cs j).length = 7) ∧ w.ownsRow B 25 7 iv I.length ((List.range I.length).flatMap cs) ∧ ∀ j (h : j < I.length), TreeAt w ok (cs j) I[j]
theorem KeysRow.nil (w : World) (B : Nat) : KeysRow w B (.slice none 0 0) [] := World.ownsRow_nil w B _ 1
theorem ItemsRow.nil (w : World) (B : Nat) (ok : Nat → Prop) : ItemsRow w B ok (.slice none 0 0) [] :=
  ⟨fun _ => [], fun j h => absurd h (Nat.not_lt_zero j), World.ownsRow_nil w B _ 7, fun j h => absurd h (Nat.not_lt_zero j)⟩
theorem KeysRow.strs {w : World} {B : Nat} {kv : Value} {K : List ByteArray} (h : KeysRow w B kv K) : StrsAt w (fun q => B ≤ q) kv K := by
  have hle : ∃ A c, kv = .slice A K.length c ∧ K.length ≤ c ∧ c ≤ maxLen := by
    rcases h.2 with ⟨e, h0⟩ | ⟨g, cap, cur, e, _, _, hn, hm, _⟩
    · exact ⟨none, 0, by rw [e, h0], by rw [h0]; exact Nat.le_refl _, Nat.zero_le _⟩
    · exact ⟨_, cap, e, hn, hm⟩
  obtain ⟨A, c, rfl, hle⟩ := hle
  refine ⟨A, c, rfl, hle, fun h0 => ?_⟩
  obtain ⟨q, cap, e, hb, _⟩ := h.form h0
  injection e with e1 e2 e3
  subst e1
  refine ⟨q, rfl, hb, fun j hj => ?_⟩
  have := h.cells (g := q) rfl j (.string K[j]) (by simp [pw_strs, hj])
  rwa [add_plain] at this
theorem flat_at (cs : Nat → List Value) : ∀ (n : Nat) (_ : ∀ j, j < n → (cs j).length = 7), ((List.range n).flatMap cs).length = n * 7 ∧ ∀ j, j < n → ∀ i (h : i < (cs j).length), ((List.range n).flatMap cs)[j * 7 + i]? = some (cs j)[i]
  | 0, _ => ⟨by simp, fun j h => absurd h (Nat.not_lt_zero j)⟩
  | n + 1, h7 => by
    obtain ⟨hl, hat⟩ := flat_at cs n fun j hj => h7 j (by omega)
    have e : (List.range (n + 1)).flatMap cs = (List.range n).flatMap cs ++ cs n := by simp [List.range_succ, List.flatMap_append]
    refine ⟨by rw [e, List.length_append, hl, h7 n (by omega)]; omega, fun j hj i hi => ?_⟩
    rw [e]
    rcases Nat.lt_or_ge j n with h | h
    · rw [List.getElem?_append_left (by have := h7 j hj; omega)]
      exact hat j h i hi
    · obtain rfl : j = n := by omega
      rw [List.getElem?_append_right (by omega), hl, Nat.add_sub_cancel_left]
      exact List.getElem?_eq_getElem hi
theorem ItemsRow.cells {w : World} {B : Nat} {ok : Nat → Prop} {iv : Value} {I : List JT} (h : ItemsRow w B ok iv I) (hok : ∀ q, ok q → B ≤ q) :
    ∃ cs, CellsAt w (fun q => B ≤ q) iv I.length cs ∧ ∀ j (h : j < I.length), TreeAt w (fun q => B ≤ q) (cs j) I[j] := by
  obtain ⟨cs, h7, hown, ht⟩ := h
  refine ⟨cs, ?_, fun j hj => (ht j hj).move fun q hq _ => ⟨hok q hq, rfl⟩⟩
  have hmx : I.length ≤ maxLen := by
    rcases hown.2 with ⟨_, h0⟩ | ⟨g, cap, cur, e, _, _, hn, hm, _⟩
    · rw [h0]; exact Nat.zero_le _
    · exact Nat.le_trans hn hm
  rcases Nat.eq_zero_or_pos I.length with h0 | h0
  · obtain ⟨A, c, rfl⟩ := own_slice hown
    exact ⟨A, c, rfl, hmx, h7, fun hp => by omega⟩
  · obtain ⟨q, cap, rfl, hb, _⟩ := hown.form h0
    refine ⟨_, cap, rfl, hmx, h7, fun _ => ⟨q, rfl, hb, fun j hj i hi => ?_⟩⟩
    have := hown.cells (g := q) rfl (j * 7 + i) _ ((flat_at cs I.length h7).2 j hj i hi)
    rwa [add_plain] at this
theorem items_snoc {w w' : World} {B : Nat} {ok ok' : Nat → Prop} {iv' : Value} {I : List JT} {c : List Value} {T : JT} {cs : Nat → List Value}
    (h7 : ∀ j, j < I.length → (cs j).length = 7) (ht : ∀ j (h : j < I.length), TreeAt w ok (cs j) I[j])
    (hm : ∀ q, ok q → q < w.heap.size → ok' q ∧ w'.heap[q]? = w.heap[q]?) (hT : TreeAt w ok c T) (hc : c.length = 7)
    (hown : w'.ownsRow B 25 7 iv' (I.length + 1) ((List.range I.length).flatMap cs ++ c)) :
    ItemsRow w' B ok' iv' (I ++ [T]) := by
  refine ⟨fun j => if j < I.length then cs j else c, fun j hj => ?_, ?_, fun j hj => ?_⟩
  · dsimp only
    split
    · rename_i h; exact h7 j h
    · exact hc
  · have e : (List.range (I ++ [T]).length).flatMap (fun j => if j < I.length then cs j else c) = (List.range I.length).flatMap cs ++ c := by
      rw [List.length_append, List.length_singleton, List.range_succ, List.flatMap_append]
      congr 1
      · simp only [List.flatMap_def]
        congr 1
        exact List.map_congr_left fun j hj => by rw [if_pos (List.mem_range.mp hj)]
      · simp
    rw [e, List.length_append, List.length_singleton]
    exact hown
  · dsimp only
    by_cases h : j < I.length
    · rw [if_pos h, List.getElem_append_left h]
      exact (ht j h).move hm
    · have : j = I.length := by rw [List.length_append, List.length_singleton] at hj; omega
      subst this
      rw [if_neg h]
      simpa using hT.move hm
theorem own_keep {w w' : World} {B : Nat} {e : TypeId} {size n : Nat} {v : Value} {xs : List Value} (h : w.ownsRow B e size v n xs) (hk : ∀ q, v.ownBlock = some q → w'.heap[q]? = w.heap[q]?) : w'.ownsRow B e size v n xs := by
  refine ⟨h.1, ?_⟩
  rcases h.2 with hn | ⟨g, cap, cur, rfl, hb, hgg, rest⟩
  · exact .inl hn
  · exact .inr ⟨g, cap, cur, rfl, hb, (hk g rfl).trans hgg, rest⟩
theorem ItemsRow.move {w w' : World} {B : Nat} {ok ok' : Nat → Prop} {iv : Value} {I : List JT} (h : ItemsRow w B ok iv I)
    (hm : ∀ q, ok q → q < w.heap.size → ok' q ∧ w'.heap[q]? = w.heap[q]?) (hown : ∀ xs, w.ownsRow B 25 7 iv I.length xs → w'.ownsRow B 25 7 iv I.length xs) : ItemsRow w' B ok' iv I := by
  obtain ⟨cs, h7, ho, ht⟩ := h
  exact ⟨cs, h7, hown _ ho, fun j hj => (ht j hj).move hm⟩
end Go.Proofs.YtldfejbmdonaoaaGreatDoor.Tw