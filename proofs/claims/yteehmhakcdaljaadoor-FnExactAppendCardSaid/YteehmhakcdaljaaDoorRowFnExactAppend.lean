/- The tied card FnExactAppendCardSaid: the law FnExactAppend returns true for every input, where the listed package-level variables hold what the program's text lays; its arguments read afterwards as before. -/
import Derived.Test.YteehmhakcdaljaaDoorCards
import Derived.Test.YteehmhakcdaljaaDoorTie
import Derived.Test.YteehmhakcdaljaaDoorUl
import Derived.WalkKit
import Derived.ProofKit
import Derived.OpenShut
import Derived.ShutString
import Derived.ChangeOld
import Derived.Below
import Derived.SizedLaws
import Derived.ChangeVars
import Derived.Deep.DeepHandedRow
import Derived.Lib.LaidTab
import Derived.Lib.LaidU8
namespace Go.Proofs.YteehmhakcdaljaaDoor.fnExactAppend
open Go.ChangeShapes Go.WideShapes Go.ChangeAt Go.RowKit Go.Lib
open Go.ChangeMaps (open_string shut_string)
set_option linter.unusedVariables false

theorem own : ownKnob Tryd.prog.godebug = none := by kernel_rfl

theorem var_same {P : Program} {W W' : World} {n : String} {g : Nat} (hg : P.globalNamed n = some g) (h : W'.heap[g]? = W.heap[g]?) : W'.var? P n = W.var? P n := by
  simp only [World.var?, hg, Option.bind_some, h]
theorem extra : U8Extra Tryd.prog Sh.lays260_ren := ⟨by kernel_rfl, by kernel_rfl, by kernel_rfl, by kernel_rfl, by kernel_rfl, by kernel_rfl, by kernel_rfl⟩
theorem met {W : World} (h : laidMetH Tryd.prog Rows.fnExactAppendRow.laid W) : laidMet Tryd.prog [("unicode/utf8.acceptRanges", Lib.acceptData), ("loop.example/pub-jsonroads/pub/gjson.hexchars", Lib.tabData .u8 [48, 49, 50, 51, 52, 53, 54, 55, 56, 57, 97, 98, 99, 100, 101, 102]), ("unicode/utf8.first", Lib.firstData)] W := by
  have e : Rows.fnExactAppendRow.laid = [("unicode/utf8.acceptRanges", Lib.acceptData), ("loop.example/pub-jsonroads/pub/gjson.hexchars", Lib.tabData .u8 [48, 49, 50, 51, 52, 53, 54, 55, 56, 57, 97, 98, 99, 100, 101, 102]), ("unicode/utf8.first", Lib.firstData)] := by kernel_rfl
  have h2 : laidMet Tryd.prog Rows.fnExactAppendRow.laid W := h
  rw [e] at h2
  exact h2
theorem varOf0 {W : World} (h : laidMetH Tryd.prog Rows.fnExactAppendRow.laid W) : W.var? Tryd.prog "loop.example/pub-jsonroads/pub/gjson.hexchars" = some #[.int .u8 48, .int .u8 49, .int .u8 50, .int .u8 51, .int .u8 52, .int .u8 53, .int .u8 54, .int .u8 55, .int .u8 56, .int .u8 57, .int .u8 97, .int .u8 98, .int .u8 99, .int .u8 100, .int .u8 101, .int .u8 102] := by
  obtain ⟨g, t, cs, fuel, p, hg, hty, hvar, hd⟩ := laidMet.reads (met h) (List.mem_cons_of_mem _ List.mem_cons_self)
  obtain rfl := Option.some.inj ((show Tryd.prog.globalNamed "loop.example/pub-jsonroads/pub/gjson.hexchars" = some 0 by kernel_rfl).symm.trans hg)
  obtain rfl := Option.some.inj ((show (Tryd.prog.globals[0]?).map (·.type) = some 48 by kernel_rfl).symm.trans hty)
  have hcs := cells_of_tab (n := 16) (e := 5) Tryd.underlying48 Tryd.underlying5 (by kernel_rfl) (by kernel_rfl) hd
  rw [hvar]
  congr 1
  exact Array.toList_inj.mp hcs
theorem facts {W : World} (h : laidMetH Tryd.prog Rows.fnExactAppendRow.laid W) : Uw.HexTab W ∧ Lib.Utf8Tabs 1 2 W := by
  constructor
  · intro j hj
    have hc := World.var?_cell (g := 0) (by kernel_rfl) (varOf0 h) j
    rw [hc]
    have : j = 0 ∨ j = 1 ∨ j = 2 ∨ j = 3 ∨ j = 4 ∨ j = 5 ∨ j = 6 ∨ j = 7 ∨ j = 8 ∨ j = 9 ∨ j = 10 ∨ j = 11 ∨ j = 12 ∨ j = 13 ∨ j = 14 ∨ j = 15 := by omega
    rcases this with rfl | rfl | rfl | rfl | rfl | rfl | rfl | rfl | rfl | rfl | rfl | rfl | rfl | rfl | rfl | rfl <;> rfl
  · exact utf8Tabs_of_reads Sh.lays260 extra (laidMet.reads (met h) (List.mem_cons_of_mem _ (List.mem_cons_of_mem _ List.mem_cons_self))) (laidMet.reads (met h) List.mem_cons_self)

noncomputable def laidWorld (os : Os) : World :=
  let w := World.holding Tryd.prog os ⟨#[], #[], []⟩
  let h2 := w.heap.modify 2 fun
    | .cells _ t frozen => .cells #[.int .u8 128, .int .u8 191, .int .u8 160, .int .u8 191, .int .u8 128, .int .u8 159, .int .u8 144, .int .u8 191, .int .u8 128, .int .u8 143, .int .u8 0, .int .u8 0, .int .u8 0, .int .u8 0, .int .u8 0, .int .u8 0, .int .u8 0, .int .u8 0, .int .u8 0, .int .u8 0, .int .u8 0, .int .u8 0, .int .u8 0, .int .u8 0, .int .u8 0, .int .u8 0, .int .u8 0, .int .u8 0, .int .u8 0, .int .u8 0, .int .u8 0, .int .u8 0] t frozen
    | o => o
  let h0 := h2.modify 0 fun
    | .cells _ t frozen => .cells #[.int .u8 48, .int .u8 49, .int .u8 50, .int .u8 51, .int .u8 52, .int .u8 53, .int .u8 54, .int .u8 55, .int .u8 56, .int .u8 57, .int .u8 97, .int .u8 98, .int .u8 99, .int .u8 100, .int .u8 101, .int .u8 102] t frozen
    | o => o
  let h1 := h0.modify 1 fun
    | .cells _ t frozen => .cells #[.int .u8 240, .int .u8 240, .int .u8 240, .int .u8 240, .int .u8 240, .int .u8 240, .int .u8 240, .int .u8 240, .int .u8 240, .int .u8 240, .int .u8 240, .int .u8 240, .int .u8 240, .int .u8 240, .int .u8 240, .int .u8 240, .int .u8 240, .int .u8 240, .int .u8 240, .int .u8 240, .int .u8 240, .int .u8 240, .int .u8 240, .int .u8 240, .int .u8 240, .int .u8 240, .int .u8 240, .int .u8 240, .int .u8 240, .int .u8 240, .int .u8 240, .int .u8 240, .int .u8 240, .int .u8 240, .int .u8 240, .int .u8 240, .int .u8 240, .int .u8 240, .int .u8 240, .int .u8 240, .int .u8 240, .int .u8 240, .int .u8 240, .int .u8 240, .int .u8 240, .int .u8 240, .int .u8 240, .int .u8 240, .int .u8 240, .int .u8 240, .int .u8 240, .int .u8 240, .int .u8 240, .int .u8 240, .int .u8 240, .int .u8 240, .int .u8 240, .int .u8 240, .int .u8 240, .int .u8 240, .int .u8 240, .int .u8 240, .int .u8 240, .int .u8 240, .int .u8 240, .int .u8 240, .int .u8 240, .int .u8 240, .int .u8 240, .int .u8 240, .int .u8 240, .int .u8 240, .int .u8 240, .int .u8 240, .int .u8 240, .int .u8 240, .int .u8 240, .int .u8 240, .int .u8 240, .int .u8 240, .int .u8 240, .int .u8 240, .int .u8 240, .int .u8 240, .int .u8 240, .int .u8 240, .int .u8 240, .int .u8 240, .int .u8 240, .int .u8 240, .int .u8 240, .int .u8 240, .int .u8 240, .int .u8 240, .int .u8 240, .int .u8 240, .int .u8 240, .int .u8 240, .int .u8 240, .int .u8 240, .int .u8 240, .int .u8 240, .int .u8 240, .int .u8 240, .int .u8 240, .int .u8 240, .int .u8 240, .int .u8 240, .int .u8 240, .int .u8 240, .int .u8 240, .int .u8 240, .int .u8 240, .int .u8 240, .int .u8 240, .int .u8 240, .int .u8 240, .int .u8 240, .int .u8 240, .int .u8 240, .int .u8 240, .int .u8 240, .int .u8 240, .int .u8 240, .int .u8 240, .int .u8 240, .int .u8 240, .int .u8 240, .int .u8 241, .int .u8 241, .int .u8 241, .int .u8 241, .int .u8 241, .int .u8 241, .int .u8 241, .int .u8 241, .int .u8 241, .int .u8 241, .int .u8 241, .int .u8 241, .int .u8 241, .int .u8 241, .int .u8 241, .int .u8 241, .int .u8 241, .int .u8 241, .int .u8 241, .int .u8 241, .int .u8 241, .int .u8 241, .int .u8 241, .int .u8 241, .int .u8 241, .int .u8 241, .int .u8 241, .int .u8 241, .int .u8 241, .int .u8 241, .int .u8 241, .int .u8 241, .int .u8 241, .int .u8 241, .int .u8 241, .int .u8 241, .int .u8 241, .int .u8 241, .int .u8 241, .int .u8 241, .int .u8 241, .int .u8 241, .int .u8 241, .int .u8 241, .int .u8 241, .int .u8 241, .int .u8 241, .int .u8 241, .int .u8 241, .int .u8 241, .int .u8 241, .int .u8 241, .int .u8 241, .int .u8 241, .int .u8 241, .int .u8 241, .int .u8 241, .int .u8 241, .int .u8 241, .int .u8 241, .int .u8 241, .int .u8 241, .int .u8 241, .int .u8 241, .int .u8 241, .int .u8 241, .int .u8 2, .int .u8 2, .int .u8 2, .int .u8 2, .int .u8 2, .int .u8 2, .int .u8 2, .int .u8 2, .int .u8 2, .int .u8 2, .int .u8 2, .int .u8 2, .int .u8 2, .int .u8 2, .int .u8 2, .int .u8 2, .int .u8 2, .int .u8 2, .int .u8 2, .int .u8 2, .int .u8 2, .int .u8 2, .int .u8 2, .int .u8 2, .int .u8 2, .int .u8 2, .int .u8 2, .int .u8 2, .int .u8 2, .int .u8 2, .int .u8 19, .int .u8 3, .int .u8 3, .int .u8 3, .int .u8 3, .int .u8 3, .int .u8 3, .int .u8 3, .int .u8 3, .int .u8 3, .int .u8 3, .int .u8 3, .int .u8 3, .int .u8 35, .int .u8 3, .int .u8 3, .int .u8 52, .int .u8 4, .int .u8 4, .int .u8 4, .int .u8 68, .int .u8 241, .int .u8 241, .int .u8 241, .int .u8 241, .int .u8 241, .int .u8 241, .int .u8 241, .int .u8 241, .int .u8 241, .int .u8 241, .int .u8 241] t frozen
    | o => o
  { w with heap := h1 }
theorem laid_met (os : Os) : laidMet Tryd.prog Rows.fnExactAppendRow.laid ((laidWorld os).forCall (fun _ _ => 0) ⟨#[], #[.string ByteArray.empty], []⟩).memory :=
  laidMet_of_run' 8 (by kernel_rfl) (by kernel_rfl)
theorem reads (os : Os) {H : Type} (enc : TypeId × Value → H) : ∃ places, DataW.whole enc Tryd.prog ((laidWorld os).forCall (fun _ _ => 0) ⟨#[], #[.string ByteArray.empty], []⟩).memory Tryd.f3.params.toList Rows.fnExactAppendSpec.vars false (#[.string ByteArray.empty] : Array Value).toList 8 = some ([.lit (.string [])], [Rows.laid_loop_example_pub_jsonroads_pub_gjson_hexchars], places) :=
  ⟨[MemPlace.cell 0 0, MemPlace.cell 0 1, MemPlace.cell 0 2, MemPlace.cell 0 3, MemPlace.cell 0 4, MemPlace.cell 0 5, MemPlace.cell 0 6, MemPlace.cell 0 7, MemPlace.cell 0 8, MemPlace.cell 0 9, MemPlace.cell 0 10, MemPlace.cell 0 11, MemPlace.cell 0 12, MemPlace.cell 0 13, MemPlace.cell 0 14, MemPlace.cell 0 15], by kernel_rfl⟩

theorem var0 {W : World} (h : laidMetH Tryd.prog Rows.fnExactAppendRow.laid W) : W.var? Tryd.prog "loop.example/pub-jsonroads/pub/gjson.hexchars" = some #[.int .u8 48, .int .u8 49, .int .u8 50, .int .u8 51, .int .u8 52, .int .u8 53, .int .u8 54, .int .u8 55, .int .u8 56, .int .u8 57, .int .u8 97, .int .u8 98, .int .u8 99, .int .u8 100, .int .u8 101, .int .u8 102] := by
  exact varOf0 h

theorem contract (H : Type) (enc : TypeId × Value → H) (W : World) (base : Nat) (args : Array Value) (ds gs : List (DataW H)) (before : List MemPlace)
    (hval0 : ∀ (j : Nat) t v, Tryd.f3.params[j]? = some t → args[j]? = some v → Value.okWide Tryd.prog W .any base t v)
    (hW : DataW.Whole enc Tryd.prog Tryd.f3.params.toList Rows.fnExactAppendSpec.vars false W args.toList ds gs before)
    (hsz : (DataW.weightsEach Tryd.prog (Tryd.f3.params.toList ++ Rows.fnExactAppendSpec.plain.varTypes Tryd.prog) (ds ++ gs)).all (· ≤ reachBytes) = true) (hL : laidMetH Tryd.prog Rows.fnExactAppendRow.laid W) :
    Calls Tryd.prog 3 args W fun e W' => ∃ v, e = .returned v ∧ Rows.fnExactAppendSpec.post enc Tryd.prog Tryd.f3 false true false false W args v W' := by
  have hval : ∀ (j : Nat) t v, Tryd.f3.params[j]? = some t → args[j]? = some v → Value.okWide Tryd.prog W .any base t v := hval0
  have hF := facts hL
  have hW' := hW
  obtain ⟨p, q, hA0, hV, rfl, hfz, hnd⟩ := hW
  have hA : DataW.TrodAll enc Tryd.prog W 0 (fun _ => true) true Tryd.f3.params.toList args.toList ds p := hA0
  rw [Tryd.params3] at hA hval hsz
  obtain ⟨v0, vs0, d0, ds0, p0, q0, hargs, rfl, rfl, h0, r0⟩ := trodAll_cons hA
  obtain ⟨rfl, rfl, rfl⟩ := trodAll_nil r0
  obtain rfl : args = #[v0] := by cases args; simp_all
  obtain ⟨a0, rfl, rfl, rfl, y0⟩ := open_string Tryd.underlying9 (hval 0 9 v0 rfl rfl) h0
  have w0 : a0.size ≤ 140737488351232 := by
    have z := sized_string hsz (j := 0) (t := 9) rfl rfl
    rw [Array.length_toList] at z
    exact z
  have hvar := var0 hL
  have mk : ∀ (W' : World) (sp : Nat → Bool), W'.heap[0]? = W.heap[0]? → DataW.TrodVars enc Tryd.prog W' sp ["loop.example/pub-jsonroads/pub/gjson.hexchars"] [Rows.laid_loop_example_pub_jsonroads_pub_gjson_hexchars] (MemPlace.row ⟨0, 0, none⟩ 16 ++ []) := fun W' sp hw =>
    trodVars_mk1 (g := 0) (t := 48) (by kernel_rfl) (by kernel_rfl) (by rw [var_same (by kernel_rfl) hw]; exact hvar) (fuel := 8) (by kernel_rfl)
  obtain ⟨rfl, rfl⟩ := hV.unique (mk W _ rfl)
  have hg0 : 0 < W.heap.size := World.block_lt_of_cell? W ⟨0, 0, none⟩ ((World.var?_cell (by kernel_rfl) hvar 0).trans rfl)
  clear hA0 hval0 hsz
  refine (Ul.append_law a0 W w0 hF.1 hF.2).mono fun e W' ⟨he, bel⟩ => ?_
  subst he
  exact ⟨_, rfl, _, _, _, [], [], _, hW', trodAll_mk1 (shut_bool Tryd.underlying4 _), (trodAll_cons_mk (shut_string Tryd.underlying9 y0) trodAll_mk0), mk W' _ (bel.block _ hg0), bel.frame _, fun h => by cases h⟩

set_option maxRecDepth 100000 in
theorem lifted (os : Os) (started : os.Started) (H : Type) (enc : TypeId × Value → H) (F : Stop.Interp) :
    ReturnsInHanded {} Tryd.checked os 3 .any ((OpenSpec.ofChange Rows.fnExactAppendSpec).preRow enc Tryd.prog Tryd.f3 Rows.fnExactAppendRow.domain false Rows.fnExactAppendRow.laid) (((OpenSpec.ofChange Rows.fnExactAppendSpec).at F).post enc Tryd.prog Tryd.f3 false true false false) := by
  obtain ⟨places, hx⟩ := reads os enc
  refine returnsInHanded_of_row (C := Tryd.checked) (s := OpenSpec.ofChange Rows.fnExactAppendSpec) own started (by kernel_rfl) Tryd.func3
    (witness_row_at (enc := enc) (C := Tryd.checked) false (laidWorld os) #[.string ByteArray.empty] rfl (by kernel_rfl) (by kernel_rfl) (by kernel_rfl)
      (OpenSpec.preRow_of_cond 8 hx (by kernel_rfl) (fun k hk => by cases hk) (by kernel_rfl) (laid_met os))) ?_
  intro W base args ds gs before hval hW _ _ hsz hL _ _
  exact contract H enc W base args ds gs before hval hW hsz hL

set_option maxRecDepth 100000 in
theorem said : Rows.FnExactAppendSaid :=
  OpenClaim.holds_of_cond 3 Tryd.f3 rfl rfl rfl rfl rfl rfl rfl ⟨rfl, rfl, rfl, rfl, rfl⟩ rfl rfl rfl rfl rfl (by kernel_rfl) Tryd.func3 (by kernel_rfl)
    (of_decide_eq_true (by kernel_rfl)) (by unfold Func.isWrapper; first | (rw [if_pos (by decide +kernel)]; kernel_rfl) | (rw [if_neg (by decide +kernel)]; exact ⟨rfl, rfl⟩))
    (fun os started H enc _ F => by rw [OpenClaim.pre_eq_preRow]; exact lifted os started H enc F)

theorem plain (f : FuncId) (fn : Func) (hf : Tryd.pinned.checked.prog.funcNamed "loop.example/pub-jsonroads/laws.FnExactAppend" = some f) (hfn : Tryd.pinned.checked.prog.funcs[f]? = some fn) :
    false = Tryd.pinned.checked.prog.looks [] ∧ ∀ (j : Nat) t, fn.params[j]? = some t → Tryd.pinned.checked.prog.wantsStandIn t = false := by
  obtain rfl : f = 3 := Option.some.inj ((show Tryd.prog.funcNamed "loop.example/pub-jsonroads/laws.FnExactAppend" = some 3 by kernel_rfl).symm.trans hf) |>.symm
  obtain rfl : fn = Tryd.f3 := (Option.some.inj (Tryd.func3.symm.trans hfn)).symm
  refine ⟨by kernel_rfl, fun j t ht => ?_⟩
  rw [Tryd.params3] at ht
  have ht' : t ∈ #[9] := Array.mem_of_getElem? ht
  simp only [List.mem_toArray, List.mem_cons, List.not_mem_nil, or_false] at ht'
  subst ht'
  exact (show Tryd.prog.wantsStandIn 9 = false by kernel_rfl)

theorem proved : Rows.FnExactAppendCardSaid :=
  Claim7.holds_tied_plain_at .later [] _ _ _ _ said (fun _ h => by cases h) (by kernel_rfl) (fun _ h => by cases h) fnExactAppend_row_tie rfl ⟨rfl, rfl⟩ (by kernel_rfl) rfl plain (by kernel_rfl)
end Go.Proofs.YteehmhakcdaljaaDoor.fnExactAppend
