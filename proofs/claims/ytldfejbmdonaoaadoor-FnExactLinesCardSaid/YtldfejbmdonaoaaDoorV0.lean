/- Joined by a program of mine from texts of this claim: Pt. -/
import Derived.Test.YtldfejbmdonaoaaDoorRows
import Derived.Lib.LaidIn
import Derived.DataBytes
import Derived.LaidLaws
import Derived.Deep.DeepWitnessRowRef
import Derived.Great.LaidInts
import Derived.KernelRfl
namespace Go.Proofs.YtldfejbmdonaoaaDoor.Pt
set_option linter.unusedVariables false
def c2 (x : Nat × Nat) : List Value := [.int .u64 x.1, .int .u64 x.2]
theorem drop2 : ∀ (T : List (Nat × Nat)) (i : Nat), (T.flatMap c2).drop (i * 2) = (T.drop i).flatMap c2
  | T, 0 => by simp
  | [], i + 1 => by simp
  | x :: T, i + 1 => by
    rw [List.flatMap_cons, show (i + 1) * 2 = i * 2 + 2 by omega, List.drop_succ_cons, ← drop2 T i, Nat.add_comm, ← List.drop_drop]
    rfl
theorem take2 (T : List (Nat × Nat)) (i : Nat) (x : Nat × Nat) (h : T[i]? = some x) : ((T.flatMap c2).drop (i * 2)).take 2 = c2 x := by
  obtain ⟨hi, rfl⟩ := List.getElem?_eq_some_iff.mp h
  rw [drop2, List.drop_eq_getElem_cons hi, List.flatMap_cons]
  rfl
theorem len2 : ∀ T : List (Nat × Nat), (T.flatMap c2).length = T.length * 2
  | [] => rfl
  | x :: xs => by rw [List.flatMap_cons, List.length_append, len2 xs, List.length_cons]; simp [c2]; omega
theorem laidIn_pairs {P : Program} {w : World} {name : String} {g n : Nat} {t e u tg : TypeId} {f1 f2 : Field} (T : List (Nat × Nat)) (hl : T.length = n)
    (hn : P.globalNamed name = some g) (hy : (P.globals[g]?).map (·.type) = some t) (ht : P.underlying t = some (.array n e)) (he : P.underlying e = some (.struct #[f1, f2]))
    (h1 : f1.type = u ∧ f1.offset = 0) (h2 : f2.type = u ∧ f2.offset = 1) (hu : P.underlying u = some (.int .u64)) (cu : P.cellsOf u = 1) (ce : P.cellsOf e = 2) (ct : P.cellsOf t = n * 2)
    (hw : (T.all fun x => (Lit.int .u64 x.1).wf && (Lit.int .u64 x.2).wf) = true) (hgv : w.heap[g]? = some (.cells (T.flatMap c2).toArray tg (0, 0))) :
    LaidIn P w [(name, .agg (T.map fun x => .agg [.lit (.int .u64 x.1), .lit (.int .u64 x.2)]))] [g] := by
  have helem : ∀ i ∈ List.range n, DataW.trod (fun _ => ()) P w 0 (fun _ => true) false 2 e (((T.flatMap c2).drop (i * P.cellsOf e)).take (P.cellsOf e)) =
      some ((fun i => ((.agg [.lit (.int .u64 (T.getD i (0, 0)).1), .lit (.int .u64 (T.getD i (0, 0)).2)] : DataW Unit), ([] : List MemPlace))) i) := by
    intro i hi
    have hi' : i < T.length := by rw [hl]; exact List.mem_range.1 hi
    have hx : T[i]? = some (T.getD i (0, 0)) := by simp [List.getD, hi']
    rw [ce, take2 T i _ hx]
    have hwi := List.all_eq_true.1 hw (T.getD i (0, 0)) (List.mem_of_getElem? hx)
    simp only [Bool.and_eq_true] at hwi
    dsimp only
    clear hx hi' hi
    revert hwi
    generalize T.getD i (0, 0) = y
    intro hwi
    simp [DataW.trod, he, h1.1, h1.2, h2.1, h2.2, hu, cu, ce, c2, hwi.1, hwi.2]
  have hread : DataW.trod (fun _ => ()) P w 0 (fun _ => true) false 3 t (T.flatMap c2).toArray.toList = some (.agg (T.map fun x => .agg [.lit (.int .u64 x.1), .lit (.int .u64 x.2)]), []) := by
    unfold DataW.trod
    simp only [ht]
    rw [if_pos (by rw [ct, len2, hl]), mapM_some_of_forall _ helem]
    simp only [Option.map_some, List.map_map, Option.some.injEq, Prod.mk.injEq]
    constructor
    · congr 1
      apply List.ext_getElem
      · simp [hl]
      · intro i a1 a2
        have hi' : i < T.length := by simpa using a2
        simp [List.getD, hi']
    · simp
  have hv : w.var? P name = some (T.flatMap c2).toArray := by simp [World.var?, hn, hgv]
  refine LaidIn.one [g] hn hy hv hread ?_ ?_ ?_
  · rw [List.append_nil]
    exact rowP_nodup _ _
  · intro b off hp
    rw [List.append_nil] at hp
    obtain ⟨i, hi, e1⟩ := MemPlace.mem_row.1 hp
    simp only [MemPlace.cell.injEq] at e1
    obtain ⟨rfl, rfl⟩ := e1
    refine ⟨⟨_, _, hgv⟩, fun u v hcv => ?_⟩
    have hcv' : (T.flatMap c2)[i]? = some (.iface u v) := by simpa [World.cell?, hgv] using hcv
    obtain ⟨x, _, hx⟩ := List.mem_flatMap.1 (List.mem_of_getElem? hcv')
    simp [c2] at hx
  · intro x hx
    rw [List.append_nil] at hx
    obtain ⟨i, hi, rfl⟩ := MemPlace.mem_row.1 hx
    simp [MemPlace.block]
theorem all_but {l : List Nat} {f : Nat → Bool} (g0 : Nat) (h0 : f g0 = true) (h : (l.all fun g => g == g0 || f g) = true) : l.all f = true := by
  rw [List.all_eq_true] at h ⊢
  intro g hg
  have := h g hg
  by_cases e : g = g0
  · rw [e]; exact h0
  · simpa [e] using this
theorem okRef_pairs {P : Program} {w : World} {t u : TypeId} (T : List (Nat × Nat)) (hct : (P.cellTypes P.depth t).map (fun ts => ts.length == T.length * 2 && ts.all (· == u)) = some true) (hu : P.underlying u = some (.int .u64))
    (hw : (T.all fun x => decide (x.1 ≤ 18446744073709551615) && decide (x.2 ≤ 18446744073709551615)) = true) : Row.okRefB P w t (T.flatMap c2).toArray = true := by
  cases hc : P.cellTypes P.depth t with
  | none => simp [hc] at hct
  | some ts =>
    simp only [hc, Option.map_some, Option.some.injEq, Bool.and_eq_true, beq_iff_eq, List.all_eq_true] at hct
    obtain ⟨hl, ha⟩ := hct
    unfold Row.okRefB
    simp only [hc, List.size_toArray, len2, hl, Nat.mod_self, beq_self_eq_true, Bool.true_and, List.all_eq_true, List.mem_range]
    intro i hi
    rw [Nat.mod_eq_of_lt hi]
    have h1 : i < (T.flatMap c2).length := by rw [len2]; exact hi
    rw [List.getElem?_toArray, List.getElem?_eq_getElem h1, List.getElem?_eq_getElem (by omega)]
    have hm := List.getElem_mem h1
    have hu2 := ha _ (List.getElem_mem (show i < ts.length by omega))
    revert hm hu2
    generalize (T.flatMap c2)[i] = v
    generalize ts[i]'(by omega) = u'
    intro hm hu2
    subst hu2
    obtain ⟨x, hx, hv⟩ := List.mem_flatMap.1 hm
    have hwx := List.all_eq_true.1 hw x hx
    simp only [Bool.and_eq_true, decide_eq_true_eq] at hwx
    simp only [c2, List.mem_cons, List.not_mem_nil, or_false] at hv
    rcases hv with rfl | rfl
    · simp [Cell.okRefB, Cell.okB, hu]
      exact ⟨Int.natCast_nonneg _, show (x.1 : Int) ≤ 18446744073709551615 by omega⟩
    · simp [Cell.okRefB, Cell.okB, hu]
      exact ⟨Int.natCast_nonneg _, show (x.2 : Int) ≤ 18446744073709551615 by omega⟩
theorem vars_pairs {P : Program} {w : World} {g t : Nat} (T : List (Nat × Nat)) (hX : (((begin P (fun _ _ => 0) default).world.heap[g]?).bind Obj.row?).map (fun x => (x.1.size, x.2)) = some (T.length * 2, t))
    (hh : w.heap[g]? = some (.cells (T.flatMap c2).toArray t (0, 0))) (hr : Row.okRefB P w t (T.flatMap c2).toArray = true) {f : Nat → Bool}
    (hf : f g = (match ((begin P (fun _ _ => 0) default).world.heap[g]?).bind Obj.row? with
      | none => true
      | some (zero, t) => match w.heap[g]? with
        | some (.cells cs t' frozen) => decide (t' = t) && decide (frozen = (0, 0)) && cs.size == zero.size && (!P.buildable t || Row.okRefB P w t cs)
        | _ => false))
    (h : ((List.range P.globals.size).all fun k => k == g || f k) = true) : (List.range P.globals.size).all f = true := by
  refine all_but g ?_ h
  rw [hf]
  have hs : (T.flatMap c2).toArray.size = T.length * 2 := by rw [List.size_toArray, len2]
  revert hh hr hs
  generalize (T.flatMap c2).toArray = C
  intro hh hr hs
  cases hc : ((begin P (fun _ _ => 0) default).world.heap[g]?).bind Obj.row? with
  | none => simp [hc] at hX
  | some x =>
    obtain ⟨zero, t'⟩ := x
    simp only [hc, Option.map_some, Option.some.injEq, Prod.mk.injEq] at hX
    obtain ⟨hz, rfl⟩ := hX
    simp only [hh]
    simp [hr, hz, hs]
end Go.Proofs.YtldfejbmdonaoaaDoor.Pt