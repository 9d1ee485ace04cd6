/- Joined by a program of mine from texts of this claim: Ar, Aq. -/
import Derived.Test.YtldfejbmdonaoaaGreatDoorZA46
import Derived.Test.YtldfejbmdonaoaaGreatDoorZA47
import Derived.Test.YtldfejbmdonaoaaGreatDoorZA40
namespace Go.Proofs.YtldfejbmdonaoaaGreatDoor.Ar
open Go.RowKit YtldfejbmdonaoaaGreatDoorW.PrintWords YtldfejbmdonaoaaGreatDoorW.PrintLast YtldfejbmdonaoaaGreatDoorW.PrintMore Tw Tp Te At Pz Nx Gp Gv Gn Gi Ak Al Am An Ry PFnAppendParse
set_option linter.unusedVariables false
set_option linter.unusedSimpArgs false
theorem info_val : (Tryz.prog.info? 35).map (fun i => (i.zero, i.size, i.bytes)) = some (some (.agg #[.int .i64 0, .string ⟨#[]⟩, .string ⟨#[]⟩, .float .f64 0, .int .i64 0, .bool false]), 6, 64) := by kernel_rfl
theorem build_val (k : Int) (a b : ByteArray) (c : Nat) (d : Int) (q : Bool) (W : World) :
    (Instr.buildSlice 39 1 #[(0, .agg #[.int .i64 k, .string a, .string b, .float .f64 c, .int .i64 d, .bool q])]).run Tryz.prog W = .ok (.slice (some ⟨W.heap.size, 0, none⟩) 1 1) (W.alloc (.cells #[.int .i64 k, .string a, .string b, .float .f64 c, .int .i64 d, .bool q] 35)) := by
  obtain ⟨i0, hi0, hz0, hz1, hz2⟩ := info_parts info_val
  exact run_buildSlice W 39 35 1 _ _ i0 _ Tryz.underlying39 hi0 hz0 (by rw [hz1]; decide) (by rw [hz1]; decide) (by rw [hz1]; kernel_rfl)
theorem take_snoc {L : List JT} {j : Nat} (h : j < L.length) : L.take j ++ [L[j]] = L.take (j + 1) := by rw [List.take_add_one, List.getElem?_eq_getElem h]; rfl
set_option maxRecDepth 100000 in
set_option maxHeartbeats 8000000 in
theorem values_walk (B : Nat) (av : Value) (L : List JT) (hlen : L.length ≤ 70000) (w : World) (hB : B ≤ w.heap.size) (hr : ResRow w B av L) :
    Calls Tryz.prog 29 #[av] w fun e w' => ∃ out, e = .returned out ∧ ValRow w' w.heap.size out L ∧ Below w.heap.size w w' := by
  obtain ⟨A, cc, rfl⟩ := row_slice hr
  have HR := Aside0.mk hr
  have HLEN := Aside0.mk hlen
  clear hr hB hlen
  go_enter Tryz.func29, Tryz.ntmps29
  go_wp2_with fail
  have hown := World.ownsRow_made (base := w.heap.size) (e := 35) (size := 6) w #[] 0 (Nat.le_refl _) (by decide) (by simp)
  go_loopg [3, 9] L.length (fun kq x3 x9 wr => ∃ (j : Nat), x9 = .int .i64 (j : Int) ∧ Aside0 (j ≤ L.length ∧ kq ≥ L.length - j) ∧ Aside0 (ValRow wr w.heap.size x3 (L.take j)) ∧ Aside0 (Below w.heap.size w wr))
  case atStart => exact ⟨0, rfl, ⟨by omega⟩, ⟨⟨[], .nil, hown⟩⟩, ⟨below_alloc (Below.refl _ _) _⟩⟩
  case round =>
    clear hown
    obtain ⟨j, rfl, HJ, HV, HB⟩ := hrel
    by_cases hj : j < L.length
    · obtain ⟨_, g, rfl, hBg, hg, b, x, d, hstr, hkz, x0, x1, x2, x3, x4, x5⟩ := res_cells HR.out hj
      have mv : ∀ {q : Nat} {v : Value}, w.cell? ⟨g, q, none⟩ = some v → wr.cell? ⟨g, q, none⟩ = some v := fun h => (HB.out.cell hg).trans h
      replace x0 := mv x0
      replace x1 := mv x1
      replace x2 := mv x2
      replace x3 := mv x3
      replace x4 := mv x4
      replace x5 := mv x5
      have q0 : (0 : Int) ≤ (j : Int) := Int.natCast_nonneg j
      have q1 : ((j : Int) < (L.length : Int)) = True := eq_true (by omega)
      have q2 : decide ((j : Int) < (L.length : Int)) = true := decide_eq_true (by omega)
      have q3 : (j < L.length) = True := eq_true hj
      have q4 : decide (j < L.length) = true := decide_eq_true hj
      have q5 : j ≤ 70000 := by have := HLEN.out; omega
      obtain ⟨T, hT⟩ : ∃ T, L[j] = T := ⟨_, rfl⟩
      rw [hT] at hkz x0 x1
      have HK := Aside0.mk hkz
      have HTK : Aside0 (L.take j ++ [T] = L.take (j + 1)) := ⟨by rw [← hT]; exact take_snoc hj⟩
      have HTL := Aside0.mk (show (L.take j).length = j by rw [List.length_take]; omega)
      have HJ2 := Aside0.mk hj
      clear hj hkz hstr hT mv
      go_wp2_with fail
      refine (value_any T.kind T.raw HK.out b x d none 0 0 _).mono ?_
      rintro e w5 ⟨rfl, hbe⟩
      obtain ⟨xs, hrows, hown⟩ := resrow_keep (w' := w5) HV.out fun q _ hq => (hbe.block q (by simp; omega)).trans (Below.heap_alloc _ _ q hq)
      have HB5 := Aside0.mk (below_then (below_alloc HB.out _) (below_alloc HB.out _).size hbe)
      rw [HTL.out] at hown
      obtain ⟨Ao, co, e3⟩ := own_slice hown
      subst e3
      have HOW := Aside0.mk (And.intro hrows hown)
      have hbs := fun W => build_val T.kind T.raw b x d true W
      clear hbe hrows hown x0 x1 x2 x3 x4 x5
      go_wp2_with (at_builtin; refine print_append_cells (w0 := w) w.heap.size rfl (.tmp 13) (.tmp 16) 39 35 (.agg #[.int .i64 0, .string ⟨#[]⟩, .string ⟨#[]⟩, .float .f64 0, .int .i64 0, .bool false]) 6 64 rfl Tryz.underlying39 info_val rfl (by decide) (by decide) (.slice Ao j co) j xs [.int .i64 T.kind, .string T.raw, .string b, .float .f64 x, .int .i64 d, .bool true] rfl rfl rfl (by simp [Value.oneCell']) HOW.out.2 HB5.out HB5.out.size (by have := HTL.out; omega) ?_; intro v1 w6 ho1 hB6 hg6 hat6; have HO1 := Aside0.mk (And.intro ho1 hB6); clear ho1 hB6 hg6 hat6)
      go_roundg (L.length - (j + 1))
      case measure => have := HJ.out; have := HJ2.out; omega
      case rel => exact ⟨j + 1, (by first | rfl | (congr 1; omega)), ⟨by have := HJ.out; have := HJ2.out; omega⟩, ⟨by rw [← HTK.out]; exact ⟨_, .snoc HOW.out.1 ⟨b, x, d, rfl⟩, by rw [List.length_append, List.length_singleton, HTL.out]; exact HO1.out.1⟩⟩, ⟨HO1.out.2⟩⟩
    · have q1 : ((j : Int) < (L.length : Int)) = False := eq_false (by omega)
      have q2 : decide ((j : Int) < (L.length : Int)) = false := decide_eq_false (by omega)
      have q3 : (j < L.length) = False := eq_false hj
      have q4 : decide (j < L.length) = false := decide_eq_false hj
      have hL : L.take j = L := List.take_of_length_le (by omega)
      rw [hL] at HV
      go_wp2_with fail
      go_ret
      exact ⟨_, rfl, HV.out, HB.out⟩
set_option maxRecDepth 100000 in
set_option maxHeartbeats 8000000 in
theorem impl_array (s : ByteArray) (R : Int → ByteArray → ByteArray → Nat → Int → Prop) (Q : List JT → Prop) (hQ : ∀ L, Q L → L.length ≤ 70000) (w : World)
    (hP : ∀ W, Below w.heap.size w W → Calls Tryz.prog 24 #[.string s] W fun e W' => ∃ (k : Int) (x y : ByteArray) (c : Nat) (d : Int), e = .returned (.agg #[.int .i64 k, .string x, .string y, .float .f64 c, .int .i64 d, .slice none 0 0]) ∧ R k x y c d ∧ Below W.heap.size W W')
    (hA : ∀ k x y c d, R k x y c d → ∀ W, Below w.heap.size w W → Calls Tryz.prog 30 #[.agg #[.int .i64 k, .string x, .string y, .float .f64 c, .int .i64 d, .slice none 0 0]] W fun e W' => ∃ L av, e = .returned av ∧ Q L ∧ ResRow W' W.heap.size av L ∧ Below W.heap.size W W') :
    Calls Tryz.prog 14 #[.string s] w fun e w' => ∃ L out, e = .returned out ∧ Q L ∧ ValRow w' w.heap.size out L ∧ Below w.heap.size w w' := by
  have HP := Aside0.mk hP
  have HA := Aside0.mk hA
  have HQ := Aside0.mk hQ
  clear hP hA hQ
  go_enter Tryz.func14, Tryz.ntmps14
  go_wp2_with fail
  refine (HP.out _ (Below.refl _ _)).mono ?_
  rintro e w1 ⟨k, x, y, c, d, rfl, hr, hb⟩
  have HR := Aside0.mk hr
  have HB1 := Aside0.mk hb
  clear hr hb
  go_wp2_with fail
  refine (HA.out k x y c d HR.out _ HB1.out).mono ?_
  rintro e w2 ⟨L, av, rfl, hq, hr, hb⟩
  have HB2 := Aside0.mk (below_then HB1.out HB1.out.size hb)
  obtain ⟨A, cc, rfl⟩ := row_slice hr
  have HR2 := Aside0.mk hr
  have HQ2 := Aside0.mk hq
  have HZ := Aside0.mk hb.size
  clear hq hr hb
  go_wp2_with fail
  refine (values_walk w1.heap.size (.slice A L.length cc) L (HQ.out L HQ2.out) w2 HZ.out HR2.out).mono ?_
  rintro e w3 ⟨out, rfl, hv, hb⟩
  obtain ⟨A', cc', rfl⟩ := row_slice hv
  have HB3 := Aside0.mk (below_then HB2.out HB2.out.size hb)
  have HV := Aside0.mk (resrow_mono hv HB2.out.size)
  clear hv hb
  go_wp2
  go_ret
  exact ⟨L, _, rfl, HQ2.out, HV.out, HB3.out⟩
theorem raw_first {s : ByteArray} {T : JT} {j : Int} (h : Gd.Good s (runEnd ws s 0) j T) : bt T.raw 0 = bt s (runEnd ws s 0) ∧ 0 < T.raw.size := by
  have h1 := h.lead.lo
  have h2 := h.lo
  have h3 := h.hi
  rw [h.raw]
  obtain ⟨a, ha⟩ : ∃ a : Nat, runEnd ws s 0 = a := ⟨(runEnd ws s 0).toNat, by omega⟩
  obtain ⟨b, hb⟩ : ∃ b : Nat, j = b := ⟨j.toNat, by omega⟩
  rw [ha, hb, Int.toNat_natCast, Int.toNat_natCast]
  refine ⟨?_, by rw [ByteArray.size_extract]; omega⟩
  have := Bt.bt_extract (s := s) (a := a) (b := b) (by omega) (j := 0) (by omega)
  simpa using this
theorem items_toks {s : ByteArray} {T : JT} {j : Int} (h : WellRead s T j) (h5 : T.kind = 5) (h0 : bt s (runEnd ws s 0) = 91) : TToks (s.extract (runEnd ws s 0).toNat s.size) 1 T.items ∧ T.items.length ≤ 65536 := by
  obtain ⟨k, hk, ht⟩ := h.tree
  have hlo := h.good.lead.lo
  have hlt := h.good.lead.lt
  have hs := h.size
  obtain ⟨_, hT⟩ := Ti.tree_inv hs hlo (by omega) (by omega) ht
  have hit : ∃ l, Toks s (runEnd ws s 0 + 1) l ∧ T.items = l := by
    cases hT with
    | str l p hq _ => omega
    | word kind x hx hw _ => exact absurd h5 (by show ¬ kind = 5; omega)
    | list e ks K I P hc hl =>
      rcases hc with ⟨hc, _⟩ | ⟨_, rfl, rfl⟩
      · omega
      · obtain ⟨k', rfl⟩ : ∃ k', k = k' + 1 := ⟨k - 1, by omega⟩
        obtain ⟨l, h1, h2⟩ := list_toks hs (.inl rfl) hlo (by omega) (by omega) hl
        refine ⟨l, h1, ?_⟩
        rcases h2 with ⟨_, _, h3⟩ | ⟨h3, _⟩
        · rw [List.nil_append] at h3
          exact h3
        · exact absurd h3 (by decide)
    | num => exact absurd h5 (by show ¬ (2 : Int) = 5; decide)
  obtain ⟨l, h1, h2⟩ := hit
  have h3 := ttoks_of hs hlo h1 (by omega)
  rw [show runEnd ws s 0 + 1 - runEnd ws s 0 = 1 by omega] at h3
  have h4 := ttoks_len h3
  have h5 := tail_size (s := s) hlo (by omega : runEnd ws s 0 ≤ (s.size : Int))
  rw [h2]
  exact ⟨h3, by omega⟩
theorem parse_list {s : ByteArray} {T : JT} {j : Int} (h : WellRead s T j) (h5 : T.kind = 5) (w : World) (hT : Tabs w w.heap.size) (hV : ErrVars w w.heap.size) :
    Calls Tryz.prog 24 #[.string s] w fun e w' => ∃ x : Nat, e = .returned (.agg #[.int .i64 5, .string (s.extract (runEnd ws s 0).toNat s.size), .string ⟨#[]⟩, .float .f64 x, .int .i64 (runEnd ws s 0), .slice none 0 0]) ∧ Below w.heap.size w w' := by
  rcases h.good.is with ⟨hk, _⟩ | ⟨n, hn, hnj⟩
  · omega
  · rw [h5] at hn
    have hn2 : n = (s.size : Int) := by
      rcases hn with ⟨_, _, h⟩ | ⟨h, _⟩ | ⟨⟨h, _⟩ | ⟨h, _⟩ | ⟨h, _⟩, _⟩ <;> omega
    refine (parse_other s _ 5 n h.good.lead hn w hT hV).mono ?_
    rintro e w' ⟨x, rfl, _, hb⟩
    rw [hn2, Int.toNat_natCast]
    exact ⟨x, rfl, hb⟩
end Go.Proofs.YtldfejbmdonaoaaGreatDoor.Ar
namespace Go.Proofs.YtldfejbmdonaoaaGreatDoor.Aq
open Go.RowKit YtldfejbmdonaoaaGreatDoorW.PrintWords YtldfejbmdonaoaaGreatDoorW.PrintLast YtldfejbmdonaoaaGreatDoorW.PrintMore Tw Tp Te At Pz Nx Gp Gv Gn Gi Ak Al Am An Ar Ry Wh Tm
set_option linter.unusedVariables false
set_option linter.unusedSimpArgs false
theorem cells_inv {w : World} {ok : Nat → Prop} {cs : List Value} {T : JT} (h : TreeAt w ok cs T) : ∃ A5 n5 c5 A6 n6 c6, cs = cells7 T.kind T.raw T.place T.str T.pairs (.slice A5 n5 c5) (.slice A6 n6 c6) := by
  cases h with
  | mk k r a s p kv iv K I cs hk hc hi =>
    obtain ⟨A, c, rfl, _⟩ := hk
    obtain ⟨A', c', rfl, _⟩ := hc
    exact ⟨_, _, _, _, _, _, rfl⟩
theorem items_n {w : World} {ok : Nat → Prop} {k : Int} {r : ByteArray} {a : Int} {s : ByteArray} {p : Bool} {kv : Value} {A6 : Option Addr} {n6 c6 : Nat} {T : JT} (h : TreeAt w ok (cells7 k r a s p kv (.slice A6 n6 c6)) T) : n6 = T.items.length := by
  generalize hcs : cells7 k r a s p kv (.slice A6 n6 c6) = cs at h
  cases h with
  | mk k' r' a' s' p' kv' iv' K I cs hk hc hi =>
    simp only [cells7, List.cons.injEq, and_true] at hcs
    obtain ⟨_, _, _, _, _, _, rfl⟩ := hcs
    obtain ⟨A', c', e, _⟩ := hc
    injection e with e1 e2 e3
theorem item_cells {w : World} {ok : Nat → Prop} {k : Int} {r : ByteArray} {a : Int} {s : ByteArray} {p : Bool} {kv : Value} {A6 : Option Addr} {n6 c6 : Nat} {T : JT} (h : TreeAt w ok (cells7 k r a s p kv (.slice A6 n6 c6)) T) {j : Nat} (hj : j < T.items.length) :
    ∃ q, A6 = some ⟨q, 0, none⟩ ∧ ok q ∧ q < w.heap.size ∧ ∃ (A5 : Option Addr) (n5 c5 : Nat) (A7 : Option Addr) (n7 c7 : Nat), w.cell? ⟨q, j * 7, none⟩ = some (.int .i64 T.items[j].kind) ∧ w.cell? ⟨q, j * 7 + 1, none⟩ = some (.string T.items[j].raw) ∧ w.cell? ⟨q, j * 7 + 2, none⟩ = some (.int .i64 T.items[j].place) ∧
      w.cell? ⟨q, j * 7 + 3, none⟩ = some (.string T.items[j].str) ∧ w.cell? ⟨q, j * 7 + 4, none⟩ = some (.bool T.items[j].pairs) ∧ w.cell? ⟨q, j * 7 + 5, none⟩ = some (.slice A5 n5 c5) ∧ w.cell? ⟨q, j * 7 + 6, none⟩ = some (.slice A7 n7 c7) ∧
      TreeAt w ok (cells7 T.items[j].kind T.items[j].raw T.items[j].place T.items[j].str T.items[j].pairs (.slice A5 n5 c5) (.slice A7 n7 c7)) T.items[j] := by
  generalize hcs : cells7 k r a s p kv (.slice A6 n6 c6) = cs at h
  cases h with
  | mk k' r' a' s' p' kv' iv' K I cs hk hc hi =>
    simp only [cells7, List.cons.injEq, and_true] at hcs
    obtain ⟨_, _, _, _, _, _, rfl⟩ := hcs
    obtain ⟨A', c', e, h7, hcell⟩ := hc
    injection e with e1 e2 e3
    subst e1 e2 e3
    replace hj : j < I.length := hj
    obtain ⟨q, hA, hq, hcc⟩ := hcell (by omega)
    obtain ⟨A5, n5, c5, A7, n7, c7, e⟩ := cells_inv (hi j hj)
    have hl := h7 j hj
    have get : ∀ i v, (cs j)[i]? = some v → w.cell? ⟨q, j * 7 + i, none⟩ = some v := fun i v hv => by
      obtain ⟨hi2, hv2⟩ := List.getElem?_eq_some_iff.mp hv
      rw [← hv2]
      exact hcc j hj i hi2
    have ht := hi j hj
    rw [e] at get ht
    have h0 := get 0 _ rfl
    rw [Nat.add_zero] at h0
    exact ⟨q, hA, hq, lt_of_cell h0, A5, n5, c5, A7, n7, c7, h0, get 1 _ rfl, get 2 _ rfl, get 3 _ rfl, get 4 _ rfl, get 5 _ rfl, get 6 _ rfl, ht⟩
set_option maxRecDepth 100000 in
set_option maxHeartbeats 8000000 in
theorem tarr_kind (k : Int) (hk : k ≠ 5) (r : ByteArray) (a : Int) (s : ByteArray) (p : Bool) (A5 : Option Addr) (n5 c5 : Nat) (A6 : Option Addr) (n6 c6 : Nat) (w : World) : Calls Tryz.prog 15 #[.agg #[.int .i64 k, .string r, .int .i64 a, .string s, .bool p, .slice A5 n5 c5, .slice A6 n6 c6]] w fun e w' => e = .returned (.bool false) ∧ Below w.heap.size w w' := by
  have d1 : (k == 5) = false := beq_eq_false_iff_ne.mpr hk
  have HB := Aside0.mk ((Below.refl w.heap.size w).alloc (Nat.le_refl _) (Obj.cells #[.int .i64 k, .string r, .int .i64 a, .string s, .bool p, .slice A5 n5 c5, .slice A6 n6 c6] 25))
  clear hk
  go_enter Tryz.func15, Tryz.ntmps15
  go_wp2
  go_ret
  exact ⟨rfl, HB.out⟩
set_option maxRecDepth 100000 in
set_option maxHeartbeats 8000000 in
theorem tarr_is (r : ByteArray) (hb : bt r 0 = 91 ∨ bt r 0 = 123) (a : Int) (s : ByteArray) (p : Bool) (A5 : Option Addr) (n5 c5 : Nat) (A6 : Option Addr) (n6 c6 : Nat) (w : World) : Calls Tryz.prog 15 #[.agg #[.int .i64 5, .string r, .int .i64 a, .string s, .bool p, .slice A5 n5 c5, .slice A6 n6 c6]] w fun e w' => e = .returned (.bool (bt r 0 == 91)) ∧ Below w.heap.size w w' := by
  have hz : 0 < (r.size : Int) := lt_of_bt (by omega)
  have hzn : 0 < r.size := by omega
  have hne : ¬ (r = ByteArray.empty) := by rintro rfl; exact absurd hzn (by decide)
  have hne2 : ¬ (r = (⟨#[]⟩ : ByteArray)) := by rintro rfl; exact absurd hzn (by decide)
  have hne3 : r.toList.isEmpty = false := by rw [← decide_eq_emptyBytes]; exact decide_eq_false hne
  have hx := Bt.bt_at0 r
  have HB := Aside0.mk ((Below.refl w.heap.size w).alloc (Nat.le_refl _) (Obj.cells #[.int .i64 5, .string r, .int .i64 a, .string s, .bool p, .slice A5 n5 c5, .slice A6 n6 c6] 25))
  rcases hb with hb | hb
  all_goals
    rw [hb] at hx ⊢
    clear hb
    go_enter Tryz.func15, Tryz.ntmps15
    go_wp2
    go_ret
    exact ⟨rfl, HB.out⟩
theorem array_null {s : ByteArray} {T : JT} {j : Int} (h : WellRead s T j) (hk : T.kind = 0) (w : World) (hT : Tabs w w.heap.size) (hV : ErrVars w w.heap.size) :
    Calls Tryz.prog 14 #[.string s] w fun e w' => ∃ L out, e = .returned out ∧ L = [] ∧ ValRow w' w.heap.size out L ∧ Below w.heap.size w w' := by
  refine impl_array s (fun k x y c d => k = 0) (fun L => L = []) (by rintro L rfl; simp) w (fun W hW => ?_) ?_
  · refine (Gd.parse_good s _ j T h.good W ((hT.below hW).mono hW.size) ((hV.below hW).mono hW.size)).mono ?_
    rintro e w' ⟨a, b, c, d, rfl, _, hb⟩
    exact ⟨T.kind, a, b, c, d, rfl, hk, hb⟩
  · rintro k x y c d rfl W hW
    refine (arr_null x y c d W).mono ?_
    rintro e w' ⟨av, rfl, hr, hb⟩
    exact ⟨[], av, rfl, rfl, hr, hb⟩
theorem array_one {s : ByteArray} {T : JT} {j : Int} (h : WellRead s T j) (hk : T.kind ≠ 0) (h5 : T.kind = 5 → bt s (runEnd ws s 0) = 123) (w : World) (hT : Tabs w w.heap.size) (hV : ErrVars w w.heap.size) :
    Calls Tryz.prog 14 #[.string s] w fun e w' => ∃ L out, e = .returned out ∧ (∃ n : Int, j ≤ n ∧ n ≤ (s.size : Int) ∧ L = [one T.kind (s.extract (runEnd ws s 0).toNat n.toNat)]) ∧ ValRow w' w.heap.size out L ∧ Below w.heap.size w w' := by
  refine impl_array s (fun k x y c d => k = T.kind ∧ ∃ n : Int, j ≤ n ∧ n ≤ (s.size : Int) ∧ x = s.extract (runEnd ws s 0).toNat n.toNat) (fun L => ∃ n : Int, j ≤ n ∧ n ≤ (s.size : Int) ∧ L = [one T.kind (s.extract (runEnd ws s 0).toNat n.toNat)]) (by rintro L ⟨n, _, _, rfl⟩; simp) w (fun W hW => ?_) ?_
  · refine (Gd.parse_good s _ j T h.good W ((hT.below hW).mono hW.size) ((hV.below hW).mono hW.size)).mono ?_
    rintro e w' ⟨a, b, c, d, rfl, ⟨hx, _⟩, hb⟩
    exact ⟨T.kind, a, b, c, d, rfl, ⟨rfl, hx⟩, hb⟩
  · rintro k x y c d ⟨rfl, n, n1, n2, rfl⟩ W hW
    have hf : T.kind = 5 → bt (s.extract (runEnd ws s 0).toNat n.toNat) 0 = 123 := fun h6 => by
      have h1 := h.good.lead.lo
      have h2 := h.good.lo
      rw [← h5 h6]
      obtain ⟨a, ha⟩ : ∃ a : Nat, runEnd ws s 0 = a := ⟨(runEnd ws s 0).toNat, by omega⟩
      obtain ⟨b, hb⟩ : ∃ b : Nat, n = b := ⟨n.toNat, by omega⟩
      rw [ha, hb, Int.toNat_natCast, Int.toNat_natCast]
      have := Bt.bt_extract (s := s) (a := a) (b := b) (by omega) (j := 0) (by omega)
      simpa using this
    refine (arr_one T.kind hk _ y (by by_cases h6 : T.kind = 5; exact .inr (hf h6); exact .inl h6) c d W).mono ?_
    rintro e w' ⟨av, rfl, hr, hb⟩
    exact ⟨_, av, rfl, ⟨n, n1, n2, rfl⟩, hr, hb⟩
theorem array_items {s : ByteArray} {T : JT} {j : Int} (h : WellRead s T j) (h5 : T.kind = 5) (h0 : bt s (runEnd ws s 0) = 91) (w : World) (hT : Tabs w w.heap.size) (hV : ErrVars w w.heap.size) :
    Calls Tryz.prog 14 #[.string s] w fun e w' => ∃ L out, e = .returned out ∧ L = T.items ∧ ValRow w' w.heap.size out L ∧ Below w.heap.size w w' := by
  obtain ⟨ht, hl⟩ := items_toks h h5 h0
  have hlo := h.good.lead.lo
  have hlt := h.good.lead.lt
  have hs := h.size
  refine impl_array s (fun k x y c d => k = 5 ∧ x = s.extract (runEnd ws s 0).toNat s.size) (fun L => L = T.items) (by rintro L rfl; omega) w (fun W hW => ?_) ?_
  · refine (parse_list h h5 W ((hT.below hW).mono hW.size) ((hV.below hW).mono hW.size)).mono ?_
    rintro e w' ⟨x, rfl, hb⟩
    exact ⟨5, _, _, x, _, rfl, ⟨rfl, rfl⟩, hb⟩
  · rintro k x y c d ⟨rfl, rfl⟩ W hW
    have hb0 : bt (s.extract (runEnd ws s 0).toNat s.size) 0 = 91 := by rw [tail_bt hlo (by omega) 0 (Int.le_refl _), Int.add_zero]; exact h0
    refine (arr_list _ (by rw [tail_size hlo (by omega)]; omega) hb0 T.items ht y c d W ((hT.below hW).mono hW.size) ((hV.below hW).mono hW.size)).mono ?_
    rintro e w' ⟨av, rfl, hr, hb⟩
    exact ⟨_, av, rfl, rfl, hr, hb⟩
theorem one_text : NumT (⟨#[49]⟩ : ByteArray) 1 := by
  have h := one_dgs 1 (by decide) (by decide)
  have e : strOfNums ([(wrap64 (48 + 1)) % 256] : List Int) = (⟨#[49]⟩ : ByteArray) := by decide +kernel
  rw [e] at h
  exact pos_text (by decide) ⟨h.pos, by have := h.le; omega, h.all, h.num, h.top⟩
theorem array_1 (w : World) (hT : Tabs w w.heap.size) (hV : ErrVars w w.heap.size) :
    Calls Tryz.prog 14 #[.string ⟨#[49]⟩] w fun e w' => ∃ L out, e = .returned out ∧ L.length = 1 ∧ ValRow w' w.heap.size out L ∧ Below w.heap.size w w' := by
  refine impl_array _ (fun k x y c d => k = 2) (fun L => L.length = 1) (fun L h => by omega) w (fun W hW => ?_) ?_
  · refine (Pn.parse_num _ 1 one_text (by decide) W ((hT.below hW).mono hW.size) ((hV.below hW).mono hW.size)).mono ?_
    rintro e w' ⟨rfl, hb⟩
    exact ⟨2, _, _, _, _, rfl, rfl, hb⟩
  · rintro k x y c d rfl W hW
    refine (arr_one 2 (by decide) x y (.inl (by decide)) c d W).mono ?_
    rintro e w' ⟨av, rfl, hr, hb⟩
    exact ⟨_, av, rfl, rfl, hr, hb⟩
end Go.Proofs.YtldfejbmdonaoaaGreatDoor.Aq