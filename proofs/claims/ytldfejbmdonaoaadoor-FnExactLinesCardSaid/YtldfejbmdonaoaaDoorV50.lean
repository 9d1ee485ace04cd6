/- Joined by a program of mine from texts of this claim: Lf. -/
import Derived.Test.YtldfejbmdonaoaaDoorV34
import Derived.Test.YtldfejbmdonaoaaDoorRows
import Derived.Lib.LaidU8
import Derived.Lib.LaidTab
import Derived.OpenShut
import Derived.KernelRfl
namespace Go.Proofs.YtldfejbmdonaoaaDoor.Lf
open Go.RowKit Go.Lib Dm Dl Df Pf Ax At Pz
set_option linter.unusedVariables false
set_option linter.unusedSimpArgs false
theorem slice_cells {P : Program} {w : World} {name : String} {g c : Nat} {t e : TypeId} (hn : P.globalNamed name = some g) (hy : (P.globals[g]?).map (·.type) = some t) (ht : P.underlying t = some (.slice e)) (hc : P.cellsOf e = c) (hc0 : 0 < c) (L : List (DataW Unit)) (hl : 0 < L.length) (h : VarReads P w name (.slice L [])) :
    ∃ R o, w.cell? ⟨g, 0, none⟩ = some (.slice (some ⟨R, o, none⟩) L.length L.length) ∧ ∀ i, i < L.length → ∃ cs fuel q d, L[i]? = some d ∧ cs.length = c ∧ (∀ j, j < c → w.cell? ⟨R, o + (i * c + j), none⟩ = cs[j]?) ∧ DataW.trod (fun _ => ()) P w 0 (fun _ => true) false fuel e cs = some (d, q) := by
  obtain ⟨g', t', cs, fuel, p, hg, hty, hvar, hd⟩ := h
  obtain rfl := Option.some.inj (hn.symm.trans hg)
  obtain rfl := Option.some.inj (hy.symm.trans hty)
  rcases DataW.trod_slice ht hd with ⟨_, hx⟩ | ⟨a, len, cap, el, rs, m, rfl, hcs, hx, _, hlc, _, hel, helem, hsp, _⟩
  · cases hx
  have e0 := congrArg Prod.fst hx
  simp only [DataW.slice.injEq] at e0
  obtain ⟨eE, eR⟩ := e0
  have hlen : len = L.length := by rw [eE, List.length_map]; omega
  have hcap : cap = len := by
    have h1 := (hsp rfl).1
    have h2 := congrArg List.length eR
    simp at h2
    omega
  subst hcap
  subst hlen
  have hE : ∀ i, i < L.length → ∃ cs fuel q d, L[i]? = some d ∧ cs.length = c ∧ (∀ j, j < c → w.cell? ((a.add (i * c)).add j) = cs[j]?) ∧ DataW.trod (fun _ => ()) P w 0 (fun _ => true) false fuel e cs = some (d, q) := by
    intro i hi
    have h1 := helem i hi
    obtain ⟨b, hb⟩ : ∃ b, el[i]? = some b := ⟨el[i]'(by omega), List.getElem?_eq_getElem (by omega)⟩
    rw [hb, hc] at h1
    obtain ⟨ce, hce, hte⟩ := Option.bind_eq_some_iff.1 h1
    obtain ⟨_, h3, h4⟩ := World.cells?_some hce
    refine ⟨ce, m, b.2, b.1, ?_, h3, h4, hte⟩
    rw [eE, List.getElem?_map, hb]
    rfl
  obtain ⟨R, o, sR⟩ := a
  obtain rfl : sR = none := by
    obtain ⟨ce, fu, q, d, _, h3, h4, _⟩ := hE 0 hl
    have h5 := h4 0 hc0
    rw [List.getElem?_eq_getElem (by omega)] at h5
    have : ((Addr.add ⟨R, o, sR⟩ (0 * c)).add 0) = ⟨R, o, sR⟩ := by simp [Addr.add]
    rw [this] at h5
    exact Go.Proofs.cell_spot h5
  refine ⟨R, o, ?_, fun i hi => ?_⟩
  · rw [World.var?_cell hg hvar 0, ← Array.getElem?_toList, hcs]
    rfl
  · obtain ⟨ce, fu, q, d, h1, h3, h4, h6⟩ := hE i hi
    refine ⟨ce, fu, q, d, h1, h3, fun j hj => ?_, h6⟩
    have := h4 j hj
    rw [Addr.add_lit, Addr.add_lit, Nat.add_assoc] at this
    exact this
theorem pair_elem {P : Program} {w : World} {e : TypeId} {f0 f1 : Field} {cs : List Value} {fuel : Nat} {q : List MemPlace} {d0 d1 : DataW Unit} (he : P.underlying e = some (.struct #[f0, f1])) (h0 : f0.offset = 0 ∧ P.cellsOf f0.type = 1) (h1 : f1.offset = 1 ∧ P.cellsOf f1.type = 1)
    (h : DataW.trod (fun _ => ()) P w 0 (fun _ => true) false fuel e cs = some (.agg [d0, d1], q)) :
    ∃ m q0 q1, DataW.trod (fun _ => ()) P w 0 (fun _ => true) false m f0.type (cs.take 1) = some (d0, q0) ∧ DataW.trod (fun _ => ()) P w 0 (fun _ => true) false m f1.type ((cs.drop 1).take 1) = some (d1, q1) := by
  obtain ⟨xs, m, _, hx, _, hxl, hf⟩ := DataW.trod_struct he h
  match xs, hxl with
  | [x0, x1], _ =>
    have h2 := hf 0 f0 rfl
    have h3 := hf 1 f1 rfl
    rw [h0.1, h0.2] at h2
    rw [h1.1, h1.2] at h3
    simp only [List.map_cons, List.map_nil, Prod.mk.injEq, DataW.agg.injEq, List.cons.injEq, and_true] at hx
    obtain ⟨⟨e0, e1⟩, _⟩ := hx
    exact ⟨m, x0.2, x1.2, by rw [e0]; exact h2, by rw [e1]; exact h3⟩
theorem take_cell {cs : List Value} {v : Value} (h : cs.take 1 = [v]) : cs[0]? = some v := by
  cases cs with
  | nil => simp at h
  | cons a l => simpa using h
theorem drop_cell {cs : List Value} {n : Nat} {v : Value} (h : (cs.drop n).take 1 = [v]) : cs[n]? = some v := by
  have := congrArg (·[0]?) h
  simpa [List.getElem?_take, List.getElem?_drop] using this
def chk (k : Nat) (x : Nat × List UInt8) : Bool :=
  decide ((⟨x.2.toArray⟩ : ByteArray).size ≤ 100) && (List.range (⟨x.2.toArray⟩ : ByteArray).size).all (fun i => decide (48 ≤ cb ⟨x.2.toArray⟩ i) && decide (cb ⟨x.2.toArray⟩ i ≤ 57)) && (decide ((⟨x.2.toArray⟩ : ByteArray).size = 0) || decide (49 ≤ cb ⟨x.2.toArray⟩ ((⟨x.2.toArray⟩ : ByteArray).size - 1)))
    && decide (x.1 ≤ 19) && decide (1 ≤ x.1) && decide (V (cb ⟨x.2.toArray⟩) (⟨x.2.toArray⟩ : ByteArray).size = 5 ^ k) && decide ((⟨x.2.toArray⟩ : ByteArray).size + x.1 = k + 1) && decide ((10 : Int) ^ (x.1 - 1) ≤ 2 ^ k) && decide ((2 : Int) ^ k < 10 ^ x.1)
theorem chk_of {k : Nat} {x : Nat × List UInt8} (h : chk k x = true) : Cut ⟨x.2.toArray⟩ ∧ x.1 ≤ 19 ∧ Cheat k x.1 (V (cb ⟨x.2.toArray⟩) (⟨x.2.toArray⟩ : ByteArray).size) (⟨x.2.toArray⟩ : ByteArray).size := by
  unfold chk at h
  simp only [Bool.and_eq_true, Bool.or_eq_true, decide_eq_true_eq, List.all_eq_true, List.mem_range] at h
  obtain ⟨⟨⟨⟨⟨⟨⟨⟨a, b⟩, c⟩, d⟩, e⟩, f⟩, g⟩, i⟩, j⟩ := h
  exact ⟨⟨a, fun i hi => b i hi, fun h0 => c.resolve_left (by omega)⟩, d, ⟨e, f, g, i, j⟩⟩
set_option maxRecDepth 100000 in
theorem chk_all : (List.range 61).all (fun k => k == 0 || match Go.Pinned.cheatRows[k]? with | some x => chk k x | none => false) = true := by decide +kernel
theorem cheats_of {w : World} (h : VarReads Tryd.prog w "internal/strconv.leftcheats" Go.Pinned.leftcheats) : Cheats w w.heap.size := by
  have hl : (Go.Pinned.cheatRows.map fun x => (DataW.agg [.lit (.int .i64 x.1), .lit (.string x.2)] : DataW Unit)).length = 61 := by kernel_rfl
  obtain ⟨R, o, hs, he⟩ := slice_cells (P := Tryd.prog) (g := 10) (c := 2) (by kernel_rfl) (by kernel_rfl) Tryd.underlying172 (by kernel_rfl) (by decide) _ (by rw [hl]; decide) h
  rw [hl] at hs he
  have hk : ∀ k : Nat, 1 ≤ k → k ≤ 60 → ∃ (d : Nat) (c : ByteArray), w.cell? ⟨R, o + k * 2, none⟩ = some (.int .i64 (d : Int)) ∧ w.cell? ⟨R, o + k * 2 + 1, none⟩ = some (.string c) ∧ Cut c ∧ d ≤ 19 ∧ Cheat k d (V (cb c) c.size) c.size := by
    intro k h1 h2
    obtain ⟨cs, fuel, q, d, hd, _, hc, ht⟩ := he k (by omega)
    have hx := List.all_eq_true.mp chk_all k (List.mem_range.mpr (by omega))
    rw [show (k == 0) = false from beq_eq_false_iff_ne.mpr (by omega), Bool.false_or] at hx
    rw [List.getElem?_map] at hd
    cases hr : Go.Pinned.cheatRows[k]? with
    | none => rw [hr] at hx; exact absurd hx (by simp)
    | some x =>
      rw [hr] at hx hd
      simp only [Option.map_some, Option.some.injEq] at hd
      subst hd
      obtain ⟨m, q0, q1, e0, e1⟩ := pair_elem Tryd.underlying171 ⟨rfl, by kernel_rfl⟩ ⟨rfl, by kernel_rfl⟩ ht
      obtain ⟨n, hn, en, _⟩ := DataW.trod_int Tryd.underlying3 e0
      obtain ⟨s, hs2, es, _⟩ := DataW.trod_string Tryd.underlying9 e1
      simp only [Prod.mk.injEq, DataW.lit.injEq, Lit.int.injEq, Lit.string.injEq, true_and] at en es
      have hs3 : s = ⟨x.2.toArray⟩ := by
        rw [es.1]
      refine ⟨x.1, ⟨x.2.toArray⟩, ?_, ?_, chk_of hx⟩
      · rw [show o + k * 2 = o + (k * 2 + 0) by omega, hc 0 (by decide), take_cell hn, en.1]
      · rw [show o + k * 2 + 1 = o + (k * 2 + 1) by omega, hc 1 (by decide), drop_cell hs2, hs3]
  exact ⟨World.block_lt_of_cell? w _ hs, R, o, (by
    obtain ⟨d, c, h1, _⟩ := hk 1 (by decide) (by decide)
    exact World.block_lt_of_cell? w _ h1), hs, hk⟩
theorem pows_of {w : World} (h : VarReads Tryd.prog w "internal/strconv.powtab" Rows.laid_internal_strconv_powtab) : Pows w w.heap.size := by
  obtain ⟨R, o, hs, he⟩ := slice_cells (P := Tryd.prog) (g := 7) (c := 1) (by kernel_rfl) (by kernel_rfl) Tryd.underlying49 (by kernel_rfl) (by decide) _ (by decide) h
  have hk : ∀ j : Nat, j < 9 → ∃ p : Int, w.cell? ⟨R, o + j, none⟩ = some (.int .i64 p) ∧ 1 ≤ p ∧ p ≤ 27 := by
    intro j hj
    obtain ⟨cs, fuel, q, d, hd, hz, hc, ht⟩ := he j hj
    obtain ⟨n, hn, en, _⟩ := DataW.trod_int Tryd.underlying3 ht
    have h0 := hc 0 (by decide)
    rw [hn, show j * 1 + 0 = j by omega] at h0
    refine ⟨n, h0, ?_⟩
    have en1 := congrArg Prod.fst en
    simp only at en1
    subst en1
    have : j = 0 ∨ j = 1 ∨ j = 2 ∨ j = 3 ∨ j = 4 ∨ j = 5 ∨ j = 6 ∨ j = 7 ∨ j = 8 := by omega
    rcases this with rfl | rfl | rfl | rfl | rfl | rfl | rfl | rfl | rfl <;> (simp at hd; omega)
  exact ⟨World.block_lt_of_cell? w _ hs, R, o, (by
    obtain ⟨p, h1, _⟩ := hk 0 (by decide)
    exact World.block_lt_of_cell? w _ h1), hs, hk⟩
theorem fp10_of {w : World} (h : VarReads Tryd.prog w "internal/strconv.float64pow10" Rows.laid_internal_strconv_float64pow10) : FP10 w w.heap.size := by
  obtain ⟨R, o, hs, he⟩ := slice_cells (P := Tryd.prog) (g := 8) (c := 1) (by kernel_rfl) (by kernel_rfl) Tryd.underlying156 (by kernel_rfl) (by decide) _ (by decide) h
  have hk : ∀ j : Nat, j < 23 → ∃ x, w.cell? ⟨R, o + j, none⟩ = some (.float .f64 x) := by
    intro j hj
    obtain ⟨cs, fuel, q, d, hd, hz, hc, ht⟩ := he j hj
    obtain ⟨x, hx⟩ : ∃ x, cs = [.float .f64 x] := by
      cases fuel with
      | zero => simp [DataW.trod] at ht
      | succ fuel =>
        unfold DataW.trod at ht
        rw [Tryd.underlying28] at ht
        split at ht <;> simp_all
    have h0 := hc 0 (by decide)
    rw [hx, show j * 1 + 0 = j by omega] at h0
    exact ⟨x, h0⟩
  exact ⟨World.block_lt_of_cell? w _ hs, R, o, (by
    obtain ⟨p, h1⟩ := hk 0 (by decide)
    exact World.block_lt_of_cell? w _ h1), hs, hk⟩
set_option maxRecDepth 100000 in
theorem rows_ok : (Go.Pinned.pow10Rows.all fun x => decide (x.1 < 18446744073709551616) && decide (x.2 < 18446744073709551616)) = true := by decide +kernel
set_option maxRecDepth 100000 in
theorem rows_348 : Go.Pinned.pow10Rows[348]? = some (9223372036854775808, 0) := by decide +kernel
theorem p10_of {w : World} (h : VarReads Tryd.prog w "internal/strconv.pow10Tab" Go.Pinned.pow10Tab) : P10 w w.heap.size := by
  obtain ⟨g', t', cs, fuel, p, hg, hty, hvar, hd⟩ := h
  obtain rfl := Option.some.inj ((show Tryd.prog.globalNamed "internal/strconv.pow10Tab" = some 9 by kernel_rfl).symm.trans hg)
  obtain rfl := Option.some.inj ((show (Tryd.prog.globals[9]?).map (·.type) = some 161 by kernel_rfl).symm.trans hty)
  obtain ⟨xs, m, _, hx, _, hxl, hall⟩ := DataW.trod_array Tryd.underlying161 hd
  have hc2 : Tryd.prog.cellsOf 160 = 2 := by kernel_rfl
  have hxs := congrArg Prod.fst hx
  simp only [Go.Pinned.pow10Tab, DataW.agg.injEq] at hxs
  have hk : ∀ j : Nat, j < 696 → ∃ hi lo : Nat, w.cell? ⟨9, j * 2, none⟩ = some (.int .u64 (hi : Int)) ∧ w.cell? ⟨9, j * 2 + 1, none⟩ = some (.int .u64 (lo : Int)) ∧ hi < 18446744073709551616 ∧ lo < 18446744073709551616 ∧ (j = 348 → hi = 9223372036854775808 ∧ lo = 0) := by
    intro j hj
    have h1 := hall j hj
    rw [hc2] at h1
    obtain ⟨b, hb⟩ : ∃ b, xs[j]? = some b := ⟨xs[j]'(by omega), List.getElem?_eq_getElem (by omega)⟩
    rw [hb] at h1
    have h2 := congrArg (fun l => l[j]?) hxs
    simp only [List.getElem?_map, hb, Option.map_some] at h2
    cases hr : Go.Pinned.pow10Rows[j]? with
    | none => rw [hr] at h2; exact absurd h2 (by simp)
    | some x =>
      rw [hr] at h2
      simp only [Option.map_some, Option.some.injEq] at h2
      obtain ⟨b1, b2⟩ := b
      simp only at h2
      subst h2
      obtain ⟨m2, q0, q1, e0, e1⟩ := pair_elem Tryd.underlying160 ⟨rfl, by kernel_rfl⟩ ⟨rfl, by kernel_rfl⟩ h1
      obtain ⟨n0, hn0, en0, _⟩ := DataW.trod_int Tryd.underlying37 e0
      obtain ⟨n1, hn1, en1, _⟩ := DataW.trod_int Tryd.underlying37 e1
      simp only [Prod.mk.injEq, DataW.lit.injEq, Lit.int.injEq, true_and] at en0 en1
      have hm := List.all_eq_true.mp rows_ok x (List.mem_of_getElem? hr)
      simp only [Bool.and_eq_true, decide_eq_true_eq] at hm
      have g0 := take_cell hn0
      have g1 := drop_cell hn1
      simp only [List.getElem?_take, List.getElem?_drop] at g0 g1
      refine ⟨x.1, x.2, ?_, ?_, hm.1, hm.2, fun e => ?_⟩
      · rw [World.var?_cell hg hvar, ← Array.getElem?_toList, en0.1]
        simpa using g0
      · rw [World.var?_cell hg hvar, ← Array.getElem?_toList, en1.1]
        simpa using g1
      · subst e
        rw [rows_348] at hr
        obtain rfl := Option.some.inj hr
        exact ⟨rfl, rfl⟩
  exact ⟨(by
    obtain ⟨a, b, h1, _⟩ := hk 0 (by decide)
    exact World.block_lt_of_cell? w _ h1), hk⟩
theorem info_of {w : World} (h : VarReads Tryd.prog w "internal/strconv.float64info" Rows.laid_internal_strconv_float64info) : Info64 w w.heap.size := by
  obtain ⟨g', t', cs, fuel, p, hg, hty, hvar, hd⟩ := h
  obtain rfl := Option.some.inj ((show Tryd.prog.globalNamed "internal/strconv.float64info" = some 5 by kernel_rfl).symm.trans hg)
  obtain rfl := Option.some.inj ((show (Tryd.prog.globals[5]?).map (·.type) = some 119 by kernel_rfl).symm.trans hty)
  obtain ⟨xs, m, _, hx, _, hxl, hf⟩ := DataW.trod_struct Tryd.underlying119 hd
  have hu : Tryd.prog.cellsOf 103 = 1 := by kernel_rfl
  have hi : Tryd.prog.cellsOf 3 = 1 := by kernel_rfl
  match xs, hxl with
  | [x0, x1, x2], _ =>
    have h0 : DataW.trod (fun _ => ()) Tryd.prog w 0 (fun _ => true) false m 103 ((cs.toList.drop 0).take (Tryd.prog.cellsOf 103)) = some x0 := hf 0 _ rfl
    have h1 : DataW.trod (fun _ => ()) Tryd.prog w 0 (fun _ => true) false m 103 ((cs.toList.drop 1).take (Tryd.prog.cellsOf 103)) = some x1 := hf 1 _ rfl
    have h2 : DataW.trod (fun _ => ()) Tryd.prog w 0 (fun _ => true) false m 3 ((cs.toList.drop 2).take (Tryd.prog.cellsOf 3)) = some x2 := hf 2 _ rfl
    rw [hu] at h0 h1
    rw [hi] at h2
    simp only [Rows.laid_internal_strconv_float64info, List.map_cons, List.map_nil, Prod.mk.injEq, DataW.agg.injEq, List.cons.injEq, and_true] at hx
    obtain ⟨⟨a0, a1, a2⟩, _⟩ := hx
    obtain ⟨n0, hn0, en0, _⟩ := DataW.trod_int Tryd.underlying103 h0
    obtain ⟨n1, hn1, en1, _⟩ := DataW.trod_int Tryd.underlying103 h1
    obtain ⟨n2, hn2, en2, _⟩ := DataW.trod_int Tryd.underlying3 h2
    have b0 := congrArg Prod.fst en0
    have b1 := congrArg Prod.fst en1
    have b2 := congrArg Prod.fst en2
    simp only at b0 b1 b2
    rw [b0] at a0
    rw [b1] at a1
    rw [b2] at a2
    simp only [DataW.lit.injEq, Lit.int.injEq, true_and] at a0 a1 a2
    have c0 := drop_cell hn0
    have c1 := drop_cell hn1
    have c2 := drop_cell hn2
    have k0 : w.cell? ⟨5, 0, none⟩ = some (.int .u64 52) := by rw [World.var?_cell hg hvar, ← Array.getElem?_toList, a0]; exact c0
    refine ⟨World.block_lt_of_cell? w _ k0, k0, ?_, ?_⟩
    · rw [World.var?_cell hg hvar, ← Array.getElem?_toList, a1]; exact c1
    · rw [World.var?_cell hg hvar, ← Array.getElem?_toList, a2]; exact c2
theorem opt_of {w : World} (h : VarReads Tryd.prog w "internal/strconv.optimize" Rows.laid_internal_strconv_optimize) : 4 < w.heap.size ∧ w.cell? ⟨4, 0, none⟩ = some (.bool true) := by
  obtain ⟨g', t', cs, fuel, p, hg, hty, hvar, hd⟩ := h
  obtain rfl := Option.some.inj ((show Tryd.prog.globalNamed "internal/strconv.optimize" = some 4 by kernel_rfl).symm.trans hg)
  obtain rfl := Option.some.inj ((show (Tryd.prog.globals[4]?).map (·.type) = some 4 by kernel_rfl).symm.trans hty)
  obtain ⟨b, hb, eb⟩ := DataW.trod_bool Tryd.underlying4 hd
  simp only [Rows.laid_internal_strconv_optimize, Prod.mk.injEq, DataW.lit.injEq, Lit.bool.injEq] at eb
  have k0 : w.cell? ⟨4, 0, none⟩ = some (.bool true) := by rw [World.var?_cell hg hvar, ← Array.getElem?_toList, hb, eb.1]; rfl
  exact ⟨World.block_lt_of_cell? w _ k0, k0⟩
theorem iface_of {P : Program} {w : World} {name nm : String} {g : Nat} {t : TypeId} {ms : Array (String × TypeId)} {d : DataW Unit} (hn : P.globalNamed name = some g) (hy : (P.globals[g]?).map (·.type) = some t) (ht : P.underlying t = some (.interface ms)) (h : VarReads P w name (.iface nm d)) :
    ∃ u v, w.cell? ⟨g, 0, none⟩ = some (.iface u v) := by
  obtain ⟨g', t', cs, fuel, p, hg, hty, hvar, hd⟩ := h
  obtain rfl := Option.some.inj (hn.symm.trans hg)
  obtain rfl := Option.some.inj (hy.symm.trans hty)
  have : ∃ u v, cs.toList = [.iface u v] := by
    cases fuel with
    | zero => simp [DataW.trod] at hd
    | succ fuel =>
      unfold DataW.trod at hd
      rw [ht] at hd
      split at hd <;> simp_all
  obtain ⟨u, v, h1⟩ := this
  exact ⟨u, v, by rw [World.var?_cell hg hvar, ← Array.getElem?_toList, h1]; rfl⟩
theorem errs_of {w : World} (h1 : VarReads Tryd.prog w "strconv.ErrSyntax" Rows.laid_strconv_ErrSyntax) (h2 : VarReads Tryd.prog w "strconv.ErrRange" Rows.laid_strconv_ErrRange) : ErrVars w w.heap.size := by
  obtain ⟨u, v, a⟩ := iface_of (g := 1) (by kernel_rfl) (by kernel_rfl) Tryd.underlying71 h1
  obtain ⟨u', v', b⟩ := iface_of (g := 2) (by kernel_rfl) (by kernel_rfl) Tryd.underlying71 h2
  exact ⟨World.block_lt_of_cell? w _ a, World.block_lt_of_cell? w _ b, ⟨u, v, a⟩, ⟨u', v', b⟩⟩
theorem tabs_of {L : List (String × DataW Unit)} {w : World} (h : laidMet Tryd.prog L w) (a : ("internal/strconv.leftcheats", Go.Pinned.leftcheats) ∈ L) (b : ("internal/strconv.powtab", Rows.laid_internal_strconv_powtab) ∈ L) (c : ("internal/strconv.float64info", Rows.laid_internal_strconv_float64info) ∈ L)
    (d : ("internal/strconv.pow10Tab", Go.Pinned.pow10Tab) ∈ L) (e : ("internal/strconv.float64pow10", Rows.laid_internal_strconv_float64pow10) ∈ L) (f : ("internal/strconv.optimize", Rows.laid_internal_strconv_optimize) ∈ L) : Tabs w w.heap.size :=
  ⟨cheats_of (laidMet.reads h a), pows_of (laidMet.reads h b), info_of (laidMet.reads h c), p10_of (laidMet.reads h d), fp10_of (laidMet.reads h e), opt_of (laidMet.reads h f)⟩
end Go.Proofs.YtldfejbmdonaoaaDoor.Lf