/- Joined by a program of mine from texts of this claim: Pn, Ar, Aq, Mp. -/
import Derived.Test.YtldfejbmdonaoaaGreatDoorZB45
import Derived.Test.YtldfejbmdonaoaaGreatDoorZB39
import Derived.Test.YtldfejbmdonaoaaGreatDoorZB44
import Derived.Test.YtldfejbmdonaoaaGreatDoorZB8
namespace Go.Proofs.YtldfejbmdonaoaaGreatDoor.Pn
open Go.RowKit YtldfejbmdonaoaaGreatDoorW.PrintWords YtldfejbmdonaoaaGreatDoorW.PrintLast YtldfejbmdonaoaaGreatDoorW.PrintMore Tp Fr At Pz Nx Gp Gv Gn Gi Wh PFnExactLess
set_option linter.unusedVariables false
set_option linter.unusedSimpArgs false
end Go.Proofs.YtldfejbmdonaoaaGreatDoor.Pn
namespace Go.Proofs.YtldfejbmdonaoaaGreatDoor.Ar
open Go.RowKit YtldfejbmdonaoaaGreatDoorW.PrintWords YtldfejbmdonaoaaGreatDoorW.PrintLast YtldfejbmdonaoaaGreatDoorW.PrintMore Tw Tp Te At Pz Nx Gp Gv Gn Gi Ak Al Am An Ry PFnAppendParse
set_option linter.unusedVariables false
set_option linter.unusedSimpArgs false
theorem raw_first {s : ByteArray} {T : JT} {j : Int} (h : Gd.Good s (runEnd ws s 0) j T) : bt T.raw 0 = bt s (runEnd ws s 0) ∧ 0 < T.raw.size := by
  have h1 := h.lead.lo
  have h2 := h.lo
  have h3 := h.hi
  rw [h.raw]
  obtain ⟨a, ha⟩ : ∃ a : Nat, runEnd ws s 0 = a := ⟨(runEnd ws s 0).toNat, by omega⟩
  obtain ⟨b, hb⟩ : ∃ b : Nat, j = b := ⟨j.toNat, by omega⟩
  rw [ha, hb, Int.toNat_natCast, Int.toNat_natCast]
  refine ⟨?_, by rw [ByteArray.size_extract]; omega⟩
  have := Bt.bt_extract (s := s) (a := a) (b := b) (by omega) (j := 0) (by omega)
  simpa using this
theorem parse_list {s : ByteArray} {T : JT} {j : Int} (h : WellRead s T j) (h5 : T.kind = 5) (w : World) (hT : Tabs w w.heap.size) (hV : ErrVars w w.heap.size) :
    Calls Tryz.prog 24 #[.string s] w fun e w' => ∃ x : Nat, e = .returned (.agg #[.int .i64 5, .string (s.extract (runEnd ws s 0).toNat s.size), .string ⟨#[]⟩, .float .f64 x, .int .i64 (runEnd ws s 0), .slice none 0 0]) ∧ Below w.heap.size w w' := by
  rcases h.good.is with ⟨hk, _⟩ | ⟨n, hn, hnj⟩
  · omega
  · rw [h5] at hn
    have hn2 : n = (s.size : Int) := by
      rcases hn with ⟨_, _, h⟩ | ⟨h, _⟩ | ⟨⟨h, _⟩ | ⟨h, _⟩ | ⟨h, _⟩, _⟩ <;> omega
    refine (parse_other s _ 5 n h.good.lead hn w hT hV).mono ?_
    rintro e w' ⟨x, rfl, _, hb⟩
    rw [hn2, Int.toNat_natCast]
    exact ⟨x, rfl, hb⟩
end Go.Proofs.YtldfejbmdonaoaaGreatDoor.Ar
namespace Go.Proofs.YtldfejbmdonaoaaGreatDoor.Aq
open Go.RowKit YtldfejbmdonaoaaGreatDoorW.PrintWords YtldfejbmdonaoaaGreatDoorW.PrintLast YtldfejbmdonaoaaGreatDoorW.PrintMore Tw Tp Te At Pz Nx Gp Gv Gn Gi Ak Al Am An Ar Ry Wh Tm
set_option linter.unusedVariables false
set_option linter.unusedSimpArgs false
theorem cells_inv {w : World} {ok : Nat → Prop} {cs : List Value} {T : JT} (h : TreeAt w ok cs T) : ∃ A5 n5 c5 A6 n6 c6, cs = cells7 T.kind T.raw T.place T.str T.pairs (.slice A5 n5 c5) (.slice A6 n6 c6) := by
  cases h with
  | mk k r a s p kv iv K I cs hk hc hi =>
    obtain ⟨A, c, rfl, _⟩ := hk
    obtain ⟨A', c', rfl, _⟩ := hc
    exact ⟨_, _, _, _, _, _, rfl⟩
theorem items_n {w : World} {ok : Nat → Prop} {k : Int} {r : ByteArray} {a : Int} {s : ByteArray} {p : Bool} {kv : Value} {A6 : Option Addr} {n6 c6 : Nat} {T : JT} (h : TreeAt w ok (cells7 k r a s p kv (.slice A6 n6 c6)) T) : n6 = T.items.length := by
  generalize hcs : cells7 k r a s p kv (.slice A6 n6 c6) = cs at h
  cases h with
  | mk k' r' a' s' p' kv' iv' K I cs hk hc hi =>
    simp only [cells7, List.cons.injEq, and_true] at hcs
    obtain ⟨_, _, _, _, _, _, rfl⟩ := hcs
    obtain ⟨A', c', e, _⟩ := hc
    injection e with e1 e2 e3
theorem item_cells {w : World} {ok : Nat → Prop} {k : Int} {r : ByteArray} {a : Int} {s : ByteArray} {p : Bool} {kv : Value} {A6 : Option Addr} {n6 c6 : Nat} {T : JT} (h : TreeAt w ok (cells7 k r a s p kv (.slice A6 n6 c6)) T) {j : Nat} (hj : j < T.items.length) :
    ∃ q, A6 = some ⟨q, 0, none⟩ ∧ ok q ∧ q < w.heap.size ∧ ∃ (A5 : Option Addr) (n5 c5 : Nat) (A7 : Option Addr) (n7 c7 : Nat), w.cell? ⟨q, j * 7, none⟩ = some (.int .i64 T.items[j].kind) ∧ w.cell? ⟨q, j * 7 + 1, none⟩ = some (.string T.items[j].raw) ∧ w.cell? ⟨q, j * 7 + 2, none⟩ = some (.int .i64 T.items[j].place) ∧
      w.cell? ⟨q, j * 7 + 3, none⟩ = some (.string T.items[j].str) ∧ w.cell? ⟨q, j * 7 + 4, none⟩ = some (.bool T.items[j].pairs) ∧ w.cell? ⟨q, j * 7 + 5, none⟩ = some (.slice A5 n5 c5) ∧ w.cell? ⟨q, j * 7 + 6, none⟩ = some (.slice A7 n7 c7) ∧
      TreeAt w ok (cells7 T.items[j].kind T.items[j].raw T.items[j].place T.items[j].str T.items[j].pairs (.slice A5 n5 c5) (.slice A7 n7 c7)) T.items[j] := by
  generalize hcs : cells7 k r a s p kv (.slice A6 n6 c6) = cs at h
  cases h with
  | mk k' r' a' s' p' kv' iv' K I cs hk hc hi =>
    simp only [cells7, List.cons.injEq, and_true] at hcs
    obtain ⟨_, _, _, _, _, _, rfl⟩ := hcs
    obtain ⟨A', c', e, _, h7, hcell⟩ := hc
    injection e with e1 e2 e3
    subst e1 e2 e3
    replace hj : j < I.length := hj
    obtain ⟨q, hA, hq, hcc⟩ := hcell (by omega)
    obtain ⟨A5, n5, c5, A7, n7, c7, e⟩ := cells_inv (hi j hj)
    have hl := h7 j hj
    have get : ∀ i v, (cs j)[i]? = some v → w.cell? ⟨q, j * 7 + i, none⟩ = some v := fun i v hv => by
      obtain ⟨hi2, hv2⟩ := List.getElem?_eq_some_iff.mp hv
      rw [← hv2]
      exact hcc j hj i hi2
    have ht := hi j hj
    rw [e] at get ht
    have h0 := get 0 _ rfl
    rw [Nat.add_zero] at h0
    exact ⟨q, hA, hq, lt_of_cell h0, A5, n5, c5, A7, n7, c7, h0, get 1 _ rfl, get 2 _ rfl, get 3 _ rfl, get 4 _ rfl, get 5 _ rfl, get 6 _ rfl, ht⟩
theorem one_text : NumT (⟨#[49]⟩ : ByteArray) 1 := by
  have h := one_dgs 1 (by decide) (by decide)
  have e : strOfNums ([(wrap64 (48 + 1)) % 256] : List Int) = (⟨#[49]⟩ : ByteArray) := by decide +kernel
  rw [e] at h
  exact pos_text (by decide) ⟨h.pos, by have := h.le; omega, h.all, h.num, h.top⟩
end Go.Proofs.YtldfejbmdonaoaaGreatDoor.Aq
namespace Go.Proofs.YtldfejbmdonaoaaGreatDoor.Mp
open Go.RowKit Go.Maps YtldfejbmdonaoaaGreatDoorW.PrintWords YtldfejbmdonaoaaGreatDoorW.PrintLast YtldfejbmdonaoaaGreatDoorW.PrintMore Tw Tp Te At Pz Nx Gp Gv Gn Gi Ak Al Am Ry Mm
set_option linter.unusedVariables false
set_option linter.unusedSimpArgs false
def ExitOne (J0 : Act → World → Prop) (Q : Exit → Act → World → Prop) : Exit → Act → World → Prop
  | .goto 0, a, w => J0 a w
  | .goto _, _, _ => False
  | e, a, w => Q e a w
theorem one_zero {J0 : Act → World → Prop} {Q Q1 : Exit → Act → World → Prop} {a : Act} {w : World} (h : ExitOne J0 Q = Q1) (hj : J0 a w) : Q1 (.goto 0) a w := by subst h; exact hj
theorem wp_scope_one {P : Program} {a : Act} {w : World} {Q : Exit → Act → World → Prop} {c r0 : Code} (h0 : findLabel c 0 = some r0)
    (first : c.wp P (ExitOne (fun a' w' => r0.wp P (Df.ExitNone Q) a' w') Q) a w) : (Code.scope c).wp P Q a w := by
  intro b k cs
  have key : ∀ (l : Nat) (r : Code), findLabel c l = some r → ∀ a w, r.wp P (Df.ExitNone Q) a w → ∃ e a' w', Q e a' w' ∧ Arrives P (lone (b.at a (.code r :: .inScope c :: k)) cs w) b k cs e a' w' := by
    intro l r hf a w hw
    obtain ⟨e, a₁, w₁, hq, harr⟩ := hw b (.inScope c :: k) cs
    cases e with
    | normal => exact ⟨.normal, a₁, w₁, hq, Steps.trans harr (.one step_inScope)⟩
    | exit id => exact ⟨.exit id, a₁, w₁, hq, fun k' hk => harr k' (by simp [exitTo, hk])⟩
    | goto l' => exact hq.elim
    | ret => exact ⟨_, a₁, w₁, hq, harr⟩
    | panic ch => exact ⟨_, a₁, w₁, hq, harr⟩
    | outgrown => exact ⟨_, a₁, w₁, hq, harr⟩
  obtain ⟨e, a₁, w₁, hq, harr⟩ := first b (.inScope c :: k) cs
  cases e with
  | normal => exact ⟨.normal, a₁, w₁, hq, .head step_scope (Steps.trans harr (.one step_inScope))⟩
  | exit id => exact ⟨.exit id, a₁, w₁, hq, fun k' hk => .head step_scope (harr k' (by simp [exitTo, hk]))⟩
  | goto l' =>
    have hg : ∀ r, findLabel c l' = some r → gotoIn l' (.inScope c :: k) = some (.code r :: .inScope c :: k) := fun r hf => by simp [gotoIn, hf]
    match l', hq with
    | 0, hq =>
      obtain ⟨e₂, a₂, w₂, hq₂, harr₂⟩ := key 0 r0 h0 a₁ w₁ hq
      exact ⟨e₂, a₂, w₂, hq₂, .of_steps (.head step_scope (harr _ (hg _ h0))) harr₂⟩
    | l + 1, hq => exact hq.elim
  | ret => exact ⟨_, a₁, w₁, hq, .of_steps (.one step_scope) harr⟩
  | panic ch => exact ⟨_, a₁, w₁, hq, .of_steps (.one step_scope) harr⟩
  | outgrown => exact ⟨_, a₁, w₁, hq, .of_steps (.one step_scope) harr⟩
def MapAt (w : World) (mv : Value) (ps : List (JT × JT)) : Prop := (mv = .map none ∧ ps = []) ∨ ∃ (B : Nat) (D : DataW Value), mv = .map (some B) ∧ w.ownsMap Tryz.prog 9 RH B ps.length D ∧ Ents ps D
theorem MapAt.keep {w w' : World} {mv : Value} {ps : List (JT × JT)} (h : MapAt w mv ps) (hb : Below w.heap.size w w') : MapAt w' mv ps := by
  rcases h with h | ⟨B, D, h1, h2, h3⟩
  · exact .inl h
  · exact .inr ⟨B, D, h1, h2.kept (grown_of_below hb none) (by simp), h3⟩
theorem four (w : World) (o1 o3 o4 : Obj) (o2 : Obj) :
    ((((w.alloc o1).alloc o2).alloc o3).alloc o4).heap[w.heap.size + 1]? = some o2 ∧ Below w.heap.size w ((((w.alloc o1).alloc o2).alloc o3).alloc o4) := by
  have s1 : (w.alloc o1).heap.size = w.heap.size + 1 := by simp
  have h2 := heap_alloc_new (w.alloc o1) o2
  rw [s1] at h2
  exact ⟨blk_alloc (blk_alloc h2 o3) o4, below_alloc (below_alloc (below_alloc ((Below.refl _ _).alloc (Nat.le_refl _) o1) o2) o3) o4⟩
set_option maxRecDepth 100000 in
set_option maxHeartbeats 8000000 in
theorem object_none (u : ByteArray) (h0 : bt u 0 = 91) (b : ByteArray) (c : Nat) (d : Int) (w : World) :
    Calls Tryz.prog 45 #[.agg #[.int .i64 5, .string u, .string b, .float .f64 c, .int .i64 d, .slice none 0 0], .int .u8 123, .bool false] w fun e w' => ∃ n, e = .returned (.agg #[.slice none 0 0, .slice none 0 0, .map none, .map none, .int .u8 n]) ∧ Below w.heap.size w w' := by
  have hz : 0 < (u.size : Int) := lt_of_bt (by omega)
  have hzn : 0 < u.size := by omega
  have hzd : decide (0 < u.size) = true := decide_eq_true hzn
  have hx0 := Bt.bt_at0 u
  rw [h0] at hx0
  clear h0
  go_enter Tryz.func45, Tryz.ntmps45
  go_wp2_with fail
  refine wp_scope_one rfl ?_
  generalize hQ : ExitOne _ _ = Q1
  go_wp2_with fail
  refine wp_loop_rounds 1 ?_
  rw [rounds_succ]
  go_wp2_with fail
  go_step3
  simp only [Exit.then, Exit.inBlock]
  refine one_zero hQ ?_
  clear hQ
  generalize hQ2 : Df.ExitNone _ = Q2
  go_wp2_with fail
  refine Df.none_ret hQ2 ?_
  clear hQ2
  obtain ⟨hr, hb⟩ := four w (Obj.cells #[Value.int IntKind.i64 5, Value.string u, Value.string b, Value.float FloatKind.f64 c, Value.int IntKind.i64 d, Value.slice none 0 0] 50) (Obj.cells #[Value.int IntKind.i64 0, Value.string { data := #[] }, Value.string { data := #[] }, Value.float FloatKind.f64 0, Value.int IntKind.i64 0, Value.slice none 0 0] 50) (Obj.cells #[Value.int IntKind.i64 0, Value.string { data := #[] }, Value.string { data := #[] }, Value.float FloatKind.f64 0, Value.int IntKind.i64 0, Value.slice none 0 0] 50) (Obj.cells #[Value.slice none 0 0, Value.slice none 0 0, Value.map none, Value.map none, Value.int IntKind.u8 0] 75)
  obtain ⟨W, hW⟩ : ∃ W, ((((w.alloc (Obj.cells #[Value.int IntKind.i64 5, Value.string u, Value.string b, Value.float FloatKind.f64 c, Value.int IntKind.i64 d, Value.slice none 0 0] 50)).alloc (Obj.cells #[Value.slice none 0 0, Value.slice none 0 0, Value.map none, Value.map none, Value.int IntKind.u8 0] 75)).alloc (Obj.cells #[Value.int IntKind.i64 0, Value.string { data := #[] }, Value.string { data := #[] }, Value.float FloatKind.f64 0, Value.int IntKind.i64 0, Value.slice none 0 0] 50)).alloc (Obj.cells #[Value.int IntKind.i64 0, Value.string { data := #[] }, Value.string { data := #[] }, Value.float FloatKind.f64 0, Value.int IntKind.i64 0, Value.slice none 0 0] 50)) = W := ⟨_, rfl⟩
  rw [hW] at hr hb ⊢
  clear hW
  have r0 := (blk_cell hr 0).trans (rfl : _ = some (Value.slice none 0 0))
  have r1 := (blk_cell hr 1).trans (rfl : _ = some (Value.slice none 0 0))
  have r2 := (blk_cell hr 2).trans (rfl : _ = some (Value.map none))
  have r3 := (blk_cell hr 3).trans (rfl : _ = some (Value.map none))
  have r4 := (blk_cell hr 4).trans (rfl : _ = some (Value.int .u8 0))
  refine bodyPost_ret (v := .agg #[.slice none 0 0, .slice none 0 0, .map none, .map none, .int .u8 0]) (by simp [results, Tryz.results45, go_sem, r0, r1, r2, r3, r4]) rfl ?_
  exact ⟨0, rfl, hb⟩
set_option maxRecDepth 100000 in
set_option maxHeartbeats 8000000 in
theorem map_other (k : Int) (hk : k ≠ 5) (a b : ByteArray) (c : Nat) (d : Int) (w : World) : Calls Tryz.prog 27 #[.agg #[.int .i64 k, .string a, .string b, .float .f64 c, .int .i64 d, .slice none 0 0]] w fun e w' => ∃ mv, e = .returned mv ∧ MapAt w' mv [] ∧ Below w.heap.size w w' := by
  have d0 : (k != 5) = true := bne_iff_ne.mpr hk
  have hmm := @run_makeMap Tryz.prog
  clear hk
  go_enter Tryz.func27, Tryz.ntmps27
  go_wp2
  go_ret
  refine ⟨_, rfl, .inr ⟨_, .map [], rfl, ?_, .nil⟩, below_alloc ((Below.refl _ _).alloc (Nat.le_refl _) _) _⟩
  have h := World.ownsMap_made (w.alloc (Obj.cells #[.int .i64 k, .string a, .string b, .float .f64 c, .int .i64 d, .slice none 0 0] 50)) Tryz.prog 9 RH
  simpa using h
set_option maxRecDepth 100000 in
set_option maxHeartbeats 8000000 in
theorem map_list (u b : ByteArray) (c : Nat) (d : Int) (ps : List (JT × JT)) (w : World)
    (hA : ∀ W, Below w.heap.size w W → Calls Tryz.prog 45 #[.agg #[.int .i64 5, .string u, .string b, .float .f64 c, .int .i64 d, .slice none 0 0], .int .u8 123, .bool false] W fun e w' => ∃ (mv : Option Nat) (n : Int), e = .returned (.agg #[.slice none 0 0, .slice none 0 0, .map mv, .map none, .int .u8 n]) ∧ MapAt w' (.map mv) ps ∧ Below W.heap.size W w') :
    Calls Tryz.prog 27 #[.agg #[.int .i64 5, .string u, .string b, .float .f64 c, .int .i64 d, .slice none 0 0]] w fun e w' => ∃ mv, e = .returned mv ∧ MapAt w' mv ps ∧ Below w.heap.size w w' := by
  have HA := Aside0.mk hA
  have HB := Aside0.mk ((Below.refl w.heap.size w).alloc (Nat.le_refl _) (Obj.cells #[.int .i64 5, .string u, .string b, .float .f64 c, .int .i64 d, .slice none 0 0] 50))
  clear hA
  go_enter Tryz.func27, Tryz.ntmps27
  go_wp2_with fail
  refine (HA.out _ HB.out).mono ?_
  rintro e w1 ⟨mv, n, rfl, hm, hb⟩
  have HM := Aside0.mk hm
  have HB1 := Aside0.mk (below_then HB.out HB.out.size hb)
  clear hm hb HA
  go_wp2
  go_ret
  exact ⟨_, rfl, HM.out.keep ((Below.refl _ _).alloc (Nat.le_refl _) _), below_alloc HB1.out _⟩
end Go.Proofs.YtldfejbmdonaoaaGreatDoor.Mp