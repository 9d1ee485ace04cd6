/- Joined by a program of mine from texts of this claim: Lz. -/
import Derived.Test.YtldfejbmdonaoaaGreatDoorL7
import Derived.Test.YtldfejbmdonaoaaGreatDoorL46
import Derived.Test.YtldfejbmdonaoaaGreatDoorL48
namespace Go.Proofs.YtldfejbmdonaoaaGreatDoor.Lz
open Go.RowKit YtldfejbmdonaoaaGreatDoorW.PrintWords YtldfejbmdonaoaaGreatDoorW.PrintLast YtldfejbmdonaoaaGreatDoorW.PrintMore Tw Tf Tp Te Gp Gv At Pz Nx Gn Gi Gd Ry Wh Pn Lx Sp PFnExactLess
set_option linter.unusedVariables false
set_option linter.unusedSimpArgs false
def ParseIs (a : ByteArray) (w : World) (R : Int → ByteArray → ByteArray → Nat → Int → Prop) : Prop :=
  ∀ W, Below w.heap.size w W → Calls Tryz.prog 24 #[.string a] W fun e W' => ∃ (k : Int) (x y : ByteArray) (c : Nat) (d : Int), e = .returned (.agg #[.int .i64 k, .string x, .string y, .float .f64 c, .int .i64 d, .slice none 0 0]) ∧ R k x y c d ∧ Below W.heap.size W W'
theorem ParseIs.later {a : ByteArray} {w w' : World} {R : Int → ByteArray → ByteArray → Nat → Int → Prop} (h : ParseIs a w R) (hb : Below w.heap.size w w') : ParseIs a w' R := fun W hW => h W (hb.trans (hW.mono hb.size))
set_option maxRecDepth 100000 in
set_option maxHeartbeats 8000000 in
theorem impl_less (a b : ByteArray) (q r : Bool) (RA RB : Int → ByteArray → ByteArray → Nat → Int → Prop) (w : World) (hA : ParseIs a w RA) (hB : ParseIs b w RB)
    (hL : ∀ k1 x1 y1 c1 d1 k2 x2 y2 c2 d2, RA k1 x1 y1 c1 d1 → RB k2 x2 y2 c2 d2 → ∀ W, Calls Tryz.prog 25 #[.agg #[.int .i64 k1, .string x1, .string y1, .float .f64 c1, .int .i64 d1, .slice none 0 0], .agg #[.int .i64 k2, .string x2, .string y2, .float .f64 c2, .int .i64 d2, .slice none 0 0], .bool q] W fun e W' => e = .returned (.bool r) ∧ Below W.heap.size W W') :
    Calls Tryz.prog 8 #[.string a, .string b, .bool q] w fun e w' => e = .returned (.bool r) ∧ Below w.heap.size w w' := by
  have HA := Aside0.mk hA
  have HB := Aside0.mk hB
  have HL := Aside0.mk hL
  clear hA hB hL
  go_enter Tryz.func8, Tryz.ntmps8
  go_wp2_with fail
  refine (HA.out _ (Below.refl _ _)).mono ?_
  rintro e w1 ⟨k1, x1, y1, c1, d1, rfl, hr1, hb1⟩
  have HR1 := Aside0.mk hr1
  have HB1 := Aside0.mk hb1
  clear hr1 hb1
  go_wp2_with fail
  refine (HB.out _ HB1.out).mono ?_
  rintro e w2 ⟨k2, x2, y2, c2, d2, rfl, hr2, hb2⟩
  have HR2 := Aside0.mk hr2
  have HB2 := Aside0.mk (below_then HB1.out HB1.out.size hb2)
  clear hr2 hb2
  go_wp2_with fail
  refine (HL.out _ _ _ _ _ _ _ _ _ _ HR1.out HR2.out _).mono ?_
  rintro e w3 ⟨rfl, hb3⟩
  have HB3 := Aside0.mk (below_then HB2.out HB2.out.size hb3)
  clear hb3
  go_wp2
  go_ret
  exact ⟨rfl, HB3.out⟩
theorem parse_whole {s : ByteArray} {n : Int} (h : NumT s n) (hn : n.natAbs < 9007199254740992) (w : World) (hT : Tabs w w.heap.size) (hV : ErrVars w w.heap.size) : ParseIs s w (fun k x y c d => k = 2 ∧ c = floatOfInt .f64 n) := fun W hW => by
  refine (parse_num s n h hn W ((hT.below hW).mono hW.size) ((hV.below hW).mono hW.size)).mono ?_
  rintro e w' ⟨rfl, hb⟩
  exact ⟨2, s, _, _, 0, rfl, ⟨rfl, rfl⟩, hb⟩
theorem parse_told {s : ByteArray} {T : JT} {j : Int} (h : WellRead s T j) (hp : T.pairs = true) (w : World) (hT : Tabs w w.heap.size) (hV : ErrVars w w.heap.size) : ParseIs s w (fun k x y c d => k = T.kind ∧ (T.kind = 3 → y = T.str)) := fun W hW => by
  refine (Gd.parse_good s _ j T h.good W ((hT.below hW).mono hW.size) ((hV.below hW).mono hW.size)).mono ?_
  rintro e w' ⟨a, b, c, d, rfl, ⟨_, _, hs⟩, hb⟩
  refine ⟨T.kind, a, b, c, d, rfl, ⟨rfl, fun h3 => ?_⟩, hb⟩
  obtain ⟨l, hR, he⟩ := h.str h3
  rw [he]
  exact hs h3 l T.pairs hR hp
theorem less_whole {a b : ByteArray} {m n : Int} (ha : NumT a m) (hb : NumT b n) (hm : m.natAbs < 9007199254740992) (hn : n.natAbs < 9007199254740992) (w : World) (hT : Tabs w w.heap.size) (hV : ErrVars w w.heap.size) :
    Calls Tryz.prog 8 #[.string a, .string b, .bool true] w fun e w' => e = .returned (.bool (decide (m < n))) ∧ Below w.heap.size w w' := by
  refine impl_less a b true _ _ _ w (parse_whole ha hm w hT hV) (parse_whole hb hn w hT hV) ?_
  rintro k1 x1 y1 c1 d1 k2 x2 y2 c2 d2 ⟨rfl, rfl⟩ ⟨rfl, rfl⟩ W
  refine (less_num true x1 y1 x2 y2 _ _ d1 d2 none none 0 0 0 0 W).mono ?_
  rintro e W' ⟨rfl, hbl⟩
  refine ⟨?_, hbl⟩
  rw [Fw.order_whole hm hn]
  congr 2
  by_cases h : m < n
  · simp [compare, compareOfLessAndEq, h]
  · by_cases h2 : m = n
    · simp [compare, compareOfLessAndEq, h2]
    · simp [compare, compareOfLessAndEq, h, h2]
theorem less_kinds {a b : ByteArray} {T U : JT} {i j : Int} (ha : WellRead a T i) (hb : WellRead b U j) (hp : T.pairs = true) (hq : U.pairs = true) (hk : T.kind ≠ U.kind) (w : World) (hT : Tabs w w.heap.size) (hV : ErrVars w w.heap.size) :
    Calls Tryz.prog 8 #[.string a, .string b, .bool true] w fun e w' => e = .returned (.bool (decide (T.kind < U.kind))) ∧ Below w.heap.size w w' := by
  refine impl_less a b true _ _ _ w (parse_told ha hp w hT hV) (parse_told hb hq w hT hV) ?_
  rintro k1 x1 y1 c1 d1 k2 x2 y2 c2 d2 ⟨rfl, _⟩ ⟨rfl, _⟩ W
  exact less_kind _ _ hk x1 y1 x2 y2 c1 c2 d1 d2 none none 0 0 0 0 true W
theorem less_strs {a b : ByteArray} {T U : JT} {i j : Int} (ha : WellRead a T i) (hb : WellRead b U j) (hp : T.pairs = true) (hq : U.pairs = true) (h3 : T.kind = 3) (h4 : U.kind = 3) (w : World) (hT : Tabs w w.heap.size) (hV : ErrVars w w.heap.size) :
    Calls Tryz.prog 8 #[.string a, .string b, .bool true] w fun e w' => e = .returned (.bool (Op.bytesLess T.str.toList U.str.toList)) ∧ Below w.heap.size w w' := by
  refine impl_less a b true _ _ _ w (parse_told ha hp w hT hV) (parse_told hb hq w hT hV) ?_
  rintro k1 x1 y1 c1 d1 k2 x2 y2 c2 d2 ⟨rfl, h5⟩ ⟨rfl, h6⟩ W
  rw [h3, h4]
  have := less_str x1 y1 x2 y2 c1 c2 d1 d2 none none 0 0 0 0 W
  rw [h5 h3, h6 h4] at this
  rw [h5 h3, h6 h4]
  exact this
theorem text_len {s : ByteArray} : ∀ (n : Nat) (i : Int) {l : List Int} {p : Bool} {j : Int}, textR s n i = some (l, p, j) → (l.length : Int) ≤ 4 * (j - i) := by
  intro n
  induction n with
  | zero => intro i l p j h; exact absurd h (by simp [textR])
  | succ n ih =>
    intro i l p j h
    unfold textR at h
    by_cases c1 : bt s i < 32
    · rw [if_pos c1] at h; exact absurd h (by simp)
    rw [if_neg c1] at h
    by_cases c2 : bt s i = 34
    · rw [if_pos c2] at h
      simp only [Option.some.injEq, Prod.mk.injEq] at h
      obtain ⟨rfl, _, rfl⟩ := h
      simp only [List.length_nil]
      omega
    rw [if_neg c2] at h
    by_cases c3 : bt s i = 92
    · rw [if_pos c3] at h
      replace h := Option.bind_eq_some_iff.mp h
      obtain ⟨⟨l1, p1, j1⟩, he, h⟩ := h
      replace h := Option.bind_eq_some_iff.mp h
      obtain ⟨⟨l2, p2, j2⟩, hr, h⟩ := h
      simp only [Option.some.injEq, Prod.mk.injEq] at h
      obtain ⟨rfl, _, rfl⟩ := h
      have e1 : i + 1 + 1 ≤ j1 ∧ j1 ≤ (s.size : Int) ∧ l1.length ≤ 4 := escR_le he
      have e2 : (l2.length : Int) ≤ 4 * (j2 - j1) := ih _ hr
      simp only [List.length_append]
      omega
    · rw [if_neg c3] at h
      replace h := Option.bind_eq_some_iff.mp h
      obtain ⟨⟨l2, p2, j2⟩, hr, h⟩ := h
      simp only [Option.some.injEq, Prod.mk.injEq] at h
      obtain ⟨rfl, _, rfl⟩ := h
      have e2 : (l2.length : Int) ≤ 4 * (j2 - (i + 1)) := ih _ hr
      simp only [List.length_cons]
      omega
theorem told_str {s : ByteArray} {T : JT} {j : Int} (h : WellRead s T j) (h3 : T.kind = 3) : T.str.size ≤ 140737488351232 := by
  obtain ⟨l, hR, he⟩ := h.str h3
  have h1 := text_len _ _ hR
  have h2 := h.good.hi
  have h4 := h.size
  have h5 := runEnd_ge (p := ws) (s := s) (i := 0)
  rw [he, strOfNums_size]
  omega
theorem less_strs_in {a b : ByteArray} {T U : JT} {i j : Int} (ha : WellRead a T i) (hb : WellRead b U j) (hp : T.pairs = true) (hq : U.pairs = true) (h3 : T.kind = 3) (h4 : U.kind = 3) (w : World) (hT : Tabs w w.heap.size) (hV : ErrVars w w.heap.size) :
    Calls Tryz.prog 8 #[.string a, .string b, .bool false] w fun e w' => e = .returned (.bool (Op.bytesLess (Less.lower T.str).toList (Less.lower U.str).toList)) ∧ Below w.heap.size w w' := by
  refine impl_less a b false _ _ _ w (parse_told ha hp w hT hV) (parse_told hb hq w hT hV) ?_
  rintro k1 x1 y1 c1 d1 k2 x2 y2 c2 d2 ⟨rfl, h5⟩ ⟨rfl, h6⟩ W
  rw [h3, h4]
  have := less_str_in x1 y1 x2 y2 (by rw [h5 h3]; exact told_str ha h3) c1 c2 d1 d2 none none 0 0 0 0 W
  rw [h5 h3, h6 h4] at this
  rw [h5 h3, h6 h4]
  exact this
theorem keep_on {w W W' : World} {x y : Nat} {v1 v2 v3 v4 : Value} (h : Below w.heap.size w W ∧ W.cell? ⟨x, 0, none⟩ = some v1 ∧ W.cell? ⟨x, 3, none⟩ = some v2 ∧ W.cell? ⟨y, 0, none⟩ = some v3 ∧ W.cell? ⟨y, 3, none⟩ = some v4) (hb : Below W.heap.size W W') :
    Below w.heap.size w W' ∧ W'.cell? ⟨x, 0, none⟩ = some v1 ∧ W'.cell? ⟨x, 3, none⟩ = some v2 ∧ W'.cell? ⟨y, 0, none⟩ = some v3 ∧ W'.cell? ⟨y, 3, none⟩ = some v4 := by
  have k : ∀ {q j : Nat} {v : Value}, W.cell? ⟨q, j, none⟩ = some v → W'.cell? ⟨q, j, none⟩ = some v := fun hc => (hb.cell (World.block_lt_of_cell? W _ hc)).trans hc
  exact ⟨below_then h.1 h.1.size hb, k h.2.1, k h.2.2.1, k h.2.2.2.1, k h.2.2.2.2⟩
theorem i32_bd {n : Int} (h : (Lit.int .i32 n).wf = true) : -2147483648 ≤ n ∧ n ≤ 2147483647 := by
  have h : IntKind.min .i32 ≤ n ∧ n ≤ IntKind.max .i32 := by simpa [Lit.wf] using h
  have e1 : IntKind.min .i32 = -2147483648 := by decide
  have e2 : IntKind.max .i32 = 2147483647 := by decide
  omega
set_option maxRecDepth 100000 in
set_option maxHeartbeats 8000000 in
theorem less_law (a b : ByteArray) (m n : Int) (w : World) (hsa : a.size ≤ 140737488351232) (hsb : b.size ≤ 140737488351232) (hm : (Lit.int .i32 m).wf = true) (hn : (Lit.int .i32 n).wf = true) (hT : Tabs w w.heap.size) (hV : ErrVars w w.heap.size) :
    Calls Tryz.prog 3 #[.string a, .string b, .int .i32 m, .int .i32 n] w fun e w' => e = .returned (.bool true) ∧ Below w.heap.size w w' := by
  obtain ⟨m1, m2⟩ := i32_bd hm
  obtain ⟨n1, n2⟩ := i32_bd hn
  clear hm hn
  by_cases c1 : (2147483647 : Int) < (a.size : Int)
  · clear hT hV
    go_enter Tryz.func3, Tryz.ntmps3
    go_wp2_with fail
    go_ret
    exact ⟨rfl, Below.refl _ _⟩
  by_cases c2 : (2147483647 : Int) < (b.size : Int)
  · clear hT hV
    go_enter Tryz.func3, Tryz.ntmps3
    go_wp2_with fail
    go_ret
    exact ⟨rfl, Below.refl _ _⟩
  obtain ⟨sm, hsm, hSM⟩ := whole_text m (by omega) (by omega)
  obtain ⟨sn, hsn, hSN⟩ := whole_text n (by omega) (by omega)
  have HSM := Aside0.mk hsm
  have HSN := Aside0.mk hsn
  have HLW := Aside0.mk (fun (W : World) (hb : Below w.heap.size w W) => less_whole hSM hSN (by omega) (by omega) W ((hT.below hb).mono hb.size) ((hV.below hb).mono hb.size))
  have HT := Aside0.mk hT
  have HV := Aside0.mk hV
  have e1 : IntKind.i64.wrap m = m := by simp [IntKind.wrap, IntKind.signed, IntKind.bits]; omega
  have e2 : IntKind.i64.wrap n = n := by simp [IntKind.wrap, IntKind.signed, IntKind.bits]; omega
  clear hsm hsn hSM hSN hT hV m1 m2 n1 n2
  go_enter Tryz.func3, Tryz.ntmps3
  go_wp2_with fail
  refine (read_told a _).mono ?_
  rintro e w1 ⟨T, ok, A5, n5, c5, A6, n6, c6, rfl, _, hok, hb1⟩
  have HOK := Aside0.mk hok
  have HB1 := Aside0.mk (below_alloc hb1 (.cells #[.int .i64 T.kind, .string T.raw, .int .i64 T.place, .string T.str, .bool T.pairs, .slice A5 n5 c5, .slice A6 n6 c6] 25))
  clear hok hb1 c1 c2
  go_wp2_with fail
  refine (read_told b _).mono ?_
  rintro e w2 ⟨U, is, B5, k5, d5, B6, k6, d6, rfl, _, his, hb2⟩
  have HIS := Aside0.mk his
  have hx2 := blk_below (heap_alloc_new w1 (.cells #[.int .i64 T.kind, .string T.raw, .int .i64 T.place, .string T.str, .bool T.pairs, .slice A5 n5 c5, .slice A6 n6 c6] 25)) hb2
  have HB2 := Aside0.mk (below_alloc (below_then HB1.out HB1.out.size hb2) (.cells #[.int .i64 U.kind, .string U.raw, .int .i64 U.place, .string U.str, .bool U.pairs, .slice B5 k5 d5, .slice B6 k6 d6] 25))
  have HX2 := Aside0.mk (And.intro (blk_alloc hx2 (.cells #[.int .i64 U.kind, .string U.raw, .int .i64 U.place, .string U.str, .bool U.pairs, .slice B5 k5 d5, .slice B6 k6 d6] 25)) (heap_alloc_new w2 (.cells #[.int .i64 U.kind, .string U.raw, .int .i64 U.place, .string U.str, .bool U.pairs, .slice B5 k5 d5, .slice B6 k6 d6] 25)))
  clear his hb2 hx2
  go_wp2_with fail
  obtain ⟨x0, hx0⟩ : ∃ x, w1.heap.size = x := ⟨_, rfl⟩
  obtain ⟨y0, hy0⟩ : ∃ x, w2.heap.size = x := ⟨_, rfl⟩
  rw [hx0, hy0] at HX2
  rw [hx0, hy0]
  obtain ⟨W3, hW3⟩ : ∃ W, w2.alloc (.cells #[.int .i64 U.kind, .string U.raw, .int .i64 U.place, .string U.str, .bool U.pairs, .slice B5 k5 d5, .slice B6 k6 d6] 25) = W := ⟨_, rfl⟩
  rw [hW3] at HX2 HB2 ⊢
  clear hx0 hy0 hW3 HB1
  refine (spec_Whole.calls 18 m sm _ HSM.out).mono ?_
  rintro e w4 ⟨rfl, hb4⟩
  have HX4 := Aside0.mk (And.intro (blk_below HX2.out.1 hb4) (blk_below HX2.out.2 hb4))
  have HB4 := Aside0.mk (below_then HB2.out HB2.out.size hb4)
  clear hb4 HX2 HB2
  go_wp2_with fail
  refine (spec_Whole.calls 18 n sn _ HSN.out).mono ?_
  rintro e w5 ⟨rfl, hb5⟩
  have HX5 := Aside0.mk (And.intro (blk_below HX4.out.1 hb5) (blk_below HX4.out.2 hb5))
  have HB5 := Aside0.mk (below_then HB4.out HB4.out.size hb5)
  clear hb5 HX4 HB4
  go_wp2_with fail
  refine (HLW.out _ HB5.out).mono ?_
  rintro e w6 ⟨rfl, hb6⟩
  have HX6 := Aside0.mk (And.intro (blk_below HX5.out.1 hb6) (blk_below HX5.out.2 hb6))
  have HB6 := Aside0.mk (below_then HB5.out HB5.out.size hb6)
  clear hb6 HX5 HB5
  have p0 := (blk_cell HX6.out.1 0).trans (rfl : _ = some (Value.int .i64 T.kind))
  have p3 := (blk_cell HX6.out.1 3).trans (rfl : _ = some (Value.string T.str))
  have p4 := (blk_cell HX6.out.1 4).trans (rfl : _ = some (Value.bool T.pairs))
  have q0 := (blk_cell HX6.out.2 0).trans (rfl : _ = some (Value.int .i64 U.kind))
  have q3 := (blk_cell HX6.out.2 3).trans (rfl : _ = some (Value.string U.str))
  have q4 := (blk_cell HX6.out.2 4).trans (rfl : _ = some (Value.bool U.pairs))
  clear HX6 HLW
  cases ok with
  | false =>
    go_wp2_with fail
    go_ret
    exact ⟨rfl, HB6.out⟩
  | true =>
  cases is with
  | false =>
    go_wp2_with fail
    go_ret
    exact ⟨rfl, HB6.out⟩
  | true =>
  rcases hp : T.pairs with _ | _
  · rw [hp] at p4
    go_wp2_with fail
    go_ret
    exact ⟨rfl, HB6.out⟩
  rcases hq : U.pairs with _ | _
  · rw [hp] at p4
    rw [hq] at q4
    go_wp2_with fail
    go_ret
    exact ⟨rfl, HB6.out⟩
  rw [hp] at p4
  rw [hq] at q4
  obtain ⟨i, hI⟩ := HOK.out rfl
  obtain ⟨j, hJ⟩ := HIS.out rfl
  have HIJ := Aside0.mk (And.intro (And.intro hI hJ) (And.intro hp hq))
  clear hI hJ HOK HIS hp hq
  by_cases ck : T.kind = U.kind
  · have d1 : (T.kind != U.kind) = false := by rw [bne_eq_false_iff_eq]; exact ck
    by_cases c3 : T.kind = 3
    · have c4 : U.kind = 3 := by rw [← ck]; exact c3
      have HL1 := Aside0.mk (fun (W : World) (hb : Below w.heap.size w W ∧ W.cell? ⟨x0, 0, none⟩ = some (.int .i64 3) ∧ W.cell? ⟨x0, 3, none⟩ = some (.string T.str) ∧ W.cell? ⟨y0, 0, none⟩ = some (.int .i64 3) ∧ W.cell? ⟨y0, 3, none⟩ = some (.string U.str)) => less_strs HIJ.out.1.1 HIJ.out.1.2 HIJ.out.2.1 HIJ.out.2.2 c3 c4 W ((HT.out.below hb.1).mono hb.1.size) ((HV.out.below hb.1).mono hb.1.size))
      have HL2 := Aside0.mk (fun (W : World) (hb : Below w.heap.size w W ∧ W.cell? ⟨x0, 0, none⟩ = some (.int .i64 3) ∧ W.cell? ⟨x0, 3, none⟩ = some (.string T.str) ∧ W.cell? ⟨y0, 0, none⟩ = some (.int .i64 3) ∧ W.cell? ⟨y0, 3, none⟩ = some (.string U.str)) => less_strs_in HIJ.out.1.1 HIJ.out.1.2 HIJ.out.2.1 HIJ.out.2.2 c3 c4 W ((HT.out.below hb.1).mono hb.1.size) ((HV.out.below hb.1).mono hb.1.size))
      have HL3 := Aside0.mk (fun (W : World) => Lw.lower_any T.str W (told_str HIJ.out.1.1 c3))
      have HL4 := Aside0.mk (fun (W : World) => Lw.lower_any U.str W (told_str HIJ.out.1.2 c4))
      rw [c3] at p0
      rw [c4] at q0
      clear ck d1 c3 c4 HT HV HIJ
      obtain ⟨Ts, hTs⟩ : ∃ x, T.str = x := ⟨_, rfl⟩
      obtain ⟨Us, hUs⟩ : ∃ x, U.str = x := ⟨_, rfl⟩
      rw [hTs] at HL1 HL2 HL3 p3
      rw [hUs] at HL1 HL2 HL4 q3
      clear hTs hUs
      go_wp2_with fail
      go_region_held3 (fun w' => Below w.heap.size w w' ∧ w'.cell? ⟨x0, 0, none⟩ = some (.int .i64 3) ∧ w'.cell? ⟨x0, 3, none⟩ = some (.string Ts) ∧ w'.cell? ⟨y0, 0, none⟩ = some (.int .i64 3) ∧ w'.cell? ⟨y0, 3, none⟩ = some (.string Us))
        (first
          | exact ⟨HB6.out.drew, p0, p3, q0, q3⟩
          | exact keep_on (by assumption) hbe
          | trace_state)
        (first
          | (go_at_call 8; with_reducible refine (HL1.out _ (by assumption)).mono ?_; rintro e w7 ⟨rfl, hbe⟩)
          | (go_at_call 8; with_reducible refine (HL2.out _ (by assumption)).mono ?_; rintro e w7 ⟨rfl, hbe⟩)
          | (go_at_call 10; with_reducible refine (HL3.out _).mono ?_; rintro e w7 ⟨rfl, hbe⟩)
          | (go_at_call 10; with_reducible refine (HL4.out _).mono ?_; rintro e w7 ⟨rfl, hbe⟩))
      have HB7 := Aside0.mk (show Below w.heap.size w w7 ∧ w7.cell? ⟨x0, 0, none⟩ = some (.int .i64 3) ∧ w7.cell? ⟨x0, 3, none⟩ = some (.string Ts) ∧ w7.cell? ⟨y0, 0, none⟩ = some (.int .i64 3) ∧ w7.cell? ⟨y0, 3, none⟩ = some (.string Us) by assumption)
      go_wp2
      go_ret
      exact ⟨rfl, HB7.out.1⟩
    · have d2 : (T.kind != 3) = true := bne_iff_ne.mpr c3
      clear HIJ ck c3 HT HV
      go_wp2_with fail
      go_quiet (fail)
      go_wp2
      go_ret
      exact ⟨rfl, pw_below_drewN HB6.out _⟩
  · have d1 : (T.kind != U.kind) = true := bne_iff_ne.mpr ck
    have HL1 := Aside0.mk (fun (W : World) (hb : Below w.heap.size w W ∧ W.cell? ⟨x0, 0, none⟩ = some (.int .i64 T.kind) ∧ W.cell? ⟨x0, 3, none⟩ = some (.string T.str) ∧ W.cell? ⟨y0, 0, none⟩ = some (.int .i64 U.kind) ∧ W.cell? ⟨y0, 3, none⟩ = some (.string U.str)) => less_kinds HIJ.out.1.1 HIJ.out.1.2 HIJ.out.2.1 HIJ.out.2.2 ck W ((HT.out.below hb.1).mono hb.1.size) ((HV.out.below hb.1).mono hb.1.size))
    clear ck HT HV HIJ
    go_wp2_with fail
    go_region_held3 (fun w' => Below w.heap.size w w' ∧ w'.cell? ⟨x0, 0, none⟩ = some (.int .i64 T.kind) ∧ w'.cell? ⟨x0, 3, none⟩ = some (.string T.str) ∧ w'.cell? ⟨y0, 0, none⟩ = some (.int .i64 U.kind) ∧ w'.cell? ⟨y0, 3, none⟩ = some (.string U.str))
      (first
        | exact ⟨HB6.out.drew, p0, p3, q0, q3⟩
        | exact keep_on (by assumption) hbe
        | trace_state)
      (first
        | (go_at_call 8; refine (HL1.out _ (by assumption)).mono ?_; rintro e w7 ⟨rfl, hbe⟩))
    have HB7 := Aside0.mk (below_then HB6.out.drew (by have := HB6.out.size; simpa using this) hbe)
    go_wp2
    go_ret
    exact ⟨rfl, HB7.out⟩
end Go.Proofs.YtldfejbmdonaoaaGreatDoor.Lz