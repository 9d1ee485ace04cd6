/- Joined by a program of mine from texts of this claim: Mo, Ml. -/
import Derived.Test.YtldfejbmdonaoaaGreatDoorZB47
import Derived.Test.YtldfejbmdonaoaaGreatDoorZB48
import Derived.Deep.QuietTactic
import Derived.BigQuiet
namespace Go.Proofs.YtldfejbmdonaoaaGreatDoor.Mo
open Go.RowKit Go.Maps YtldfejbmdonaoaaGreatDoorW.PrintWords YtldfejbmdonaoaaGreatDoorW.PrintLast YtldfejbmdonaoaaGreatDoorW.PrintMore Tw Tf Tp Te At Pz Nx Gp Gv Gn Gi Ak Al Am Ar Aq Ry Mm Mp Mg Qp
set_option linter.unusedVariables false
set_option linter.unusedSimpArgs false
theorem keys_toks {s : ByteArray} {T : JT} {j : Int} (h : WellRead s T j) (h5 : T.kind = 5) (h0 : bt s (runEnd ws s 0) = 123) : ∃ ps : List (JT × JT), TToks (s.extract (runEnd ws s 0).toNat s.size) 1 (flat ps) ∧ T.keys = keysOf ps ∧ T.items = ps.map (fun a => a.2) ∧ (∀ a ∈ ps, a.1.kind = 3) ∧ (T.pairs = true → ∀ a ∈ ps, a.1.pairs = true) := by
  obtain ⟨k, hk, ht⟩ := h.tree
  have hlo := h.good.lead.lo
  have hlt := h.good.lead.lt
  have hs := h.size
  obtain ⟨_, hT⟩ := Ti.tree_inv hs hlo (by omega) (by omega) ht
  have hit : ∃ (l : List JT) (ps : List (JT × JT)), Toks s (runEnd ws s 0 + 1) l ∧ l = flat ps ∧ T.keys = keysOf ps ∧ T.items = ps.map (fun a => a.2) ∧ (∀ a ∈ ps, a.1.kind = 3) ∧ (T.pairs = true → ∀ a ∈ ps, a.1.pairs = true) := by
    cases hT with
    | str l p hq _ => omega
    | word kind x hx hw _ => exact absurd h5 (by show ¬ kind = 5; omega)
    | list e ks K I P hc hl =>
      rcases hc with ⟨_, rfl, rfl⟩ | ⟨hc, _⟩
      · obtain ⟨k', rfl⟩ : ∃ k', k = k' + 1 := ⟨k - 1, by omega⟩
        obtain ⟨l, h1, h2⟩ := list_toks hs (.inr rfl) hlo (by omega) (by omega) hl
        rcases h2 with ⟨h3, _⟩ | ⟨_, ps, h3, h4, h6, h7, h8⟩
        · exact absurd h3 (by decide)
        · rw [List.nil_append] at h4 h6
          exact ⟨l, ps, h1, h3, h4, h6, h7, fun hP => (h8 hP).2⟩
      · omega
    | num => exact absurd h5 (by show ¬ (2 : Int) = 5; decide)
  obtain ⟨l, ps, h1, rfl, h2⟩ := hit
  have h3 := ttoks_of hs hlo h1 (by omega)
  rw [show runEnd ws s 0 + 1 - runEnd ws s 0 = 1 by omega] at h3
  exact ⟨ps, h3, h2⟩
theorem ttoks_mem {u : ByteArray} {p : Int} {l : List JT} (h : TToks u p l) {T : JT} (hT : T ∈ l) : ∃ (q : Nat) (n : Int), TVal (u.extract q u.size) n T := by
  induction h with
  | skip _ _ _ ih => exact ih hT
  | stop => exact absurd hT (by simp)
  | @val p n U l hv hr ih =>
    rcases List.mem_cons.mp hT with rfl | hT
    · exact ⟨_, n, hv⟩
    · exact ih hT
theorem flat_mem : ∀ (ps : List (JT × JT)) (a : JT × JT), a ∈ ps → a.1 ∈ flat ps
  | [], a, h => absurd h (by simp)
  | b :: r, a, h => by
    rcases List.mem_cons.mp h with rfl | h
    · exact List.mem_cons_self ..
    · exact List.mem_cons_of_mem _ (List.mem_cons_of_mem _ (flat_mem r a h))
theorem key_small {u : ByteArray} (hu : (u.size : Int) ≤ 65536) {p : Int} {ps : List (JT × JT)} (h : TToks u p (flat ps)) {a : JT × JT} (ha : a ∈ ps) (h3 : a.1.kind = 3) : a.1.str.size ≤ 140737488355328 := by
  obtain ⟨q, n, hv⟩ := ttoks_mem h (flat_mem ps a ha)
  exact key_size hv (by rw [ByteArray.size_extract]; omega) h3
def GetOk (s key : ByteArray) (ps : List (JT × JT)) (w : World) : Prop :=
  Calls Tryz.prog 13 #[.string s, .string key] w fun e w' => ∃ (k : Int) (a b : ByteArray) (c : Nat) (d : Int) (q : Bool), e = .returned (.tuple #[.agg #[.int .i64 k, .string a, .string b, .float .f64 c, .int .i64 d, .bool q], .int .i64 (ps.length : Int)]) ∧ (∀ (i : Nat) (hi : i < ps.length), key = ps[i].1.str → k = ps[i].2.kind ∧ a = ps[i].2.raw) ∧ Below w.heap.size w w'
theorem get_object (s : ByteArray) (i0 : Int) (hL : Lead s i0) (hs : (s.size : Int) ≤ 65536) (h0 : bt s i0 = 123) (ps : List (JT × JT)) (ht : TToks (s.extract i0.toNat s.size) 1 (flat ps)) (hk3 : ∀ a ∈ ps, a.1.kind = 3) (hkp : ∀ a ∈ ps, a.1.pairs = true) (hnd : (keysOf ps).Nodup) (key : ByteArray) (hks : key.size ≤ 140737488355328) (w : World) (hT : Tabs w w.heap.size) (hV : ErrVars w w.heap.size) : GetOk s key ps w := by
  have hlo := hL.lo
  have hlt := hL.lt
  refine mapget s key hks (fun k x y c d => k = 5 ∧ x = s.extract i0.toNat s.size) ps hnd w (fun W hW => ?_) ?_
  · refine (parse_other s i0 5 s.size hL (.inl ⟨rfl, .inl h0, rfl⟩) W ((hT.below hW).mono hW.size) ((hV.below hW).mono hW.size)).mono ?_
    rintro e w' ⟨x, rfl, _, hb⟩
    rw [Int.toNat_natCast]
    exact ⟨5, _, _, x, _, rfl, ⟨rfl, rfl⟩, hb⟩
  · rintro k x y c d ⟨rfl, rfl⟩ W hW
    refine map_list _ y c d ps W fun W' hW' => ?_
    have hW2 := below_then hW hW.size hW'
    refine (object_walk (s.extract i0.toNat s.size) (by rw [tail_size hlo (by omega)]; omega) (by rw [tail_bt hlo (by omega) 0 (Int.le_refl _), Int.add_zero]; exact h0) ps ht hk3 hkp hnd y c d W' ((hT.below hW2).mono hW2.size) ((hV.below hW2).mono hW2.size)).mono ?_
    rintro e w' ⟨B, D, rfl, h1, h2, hb⟩
    exact ⟨some B, 123, rfl, .inr ⟨B, D, rfl, h1, h2⟩, hb⟩
theorem get_none {s : ByteArray} {T : JT} {j : Int} (h : WellRead s T j) (hn : T.kind = 5 → bt s (runEnd ws s 0) = 91) (key : ByteArray) (hks : key.size ≤ 140737488355328) (w : World) (hT : Tabs w w.heap.size) (hV : ErrVars w w.heap.size) : GetOk s key [] w := by
  have hlo := h.good.lead.lo
  have hlt := h.good.lead.lt
  by_cases h5 : T.kind = 5
  · refine mapget s key hks (fun k x y c d => k = 5 ∧ x = s.extract (runEnd ws s 0).toNat s.size) [] (by simp [keysOf]) w (fun W hW => ?_) ?_
    · refine (parse_list h h5 W ((hT.below hW).mono hW.size) ((hV.below hW).mono hW.size)).mono ?_
      rintro e w' ⟨x, rfl, hb⟩
      exact ⟨5, _, _, x, _, rfl, ⟨rfl, rfl⟩, hb⟩
    · rintro k x y c d ⟨rfl, rfl⟩ W hW
      refine map_list _ y c d [] W fun W' hW' => ?_
      refine (object_none _ (by rw [tail_bt hlo (by omega) 0 (Int.le_refl _), Int.add_zero]; exact hn h5) y c d W').mono ?_
      rintro e w' ⟨n, rfl, hb⟩
      exact ⟨none, n, rfl, .inl ⟨rfl, rfl⟩, hb⟩
  · refine mapget s key hks (fun k x y c d => k = T.kind) [] (by simp [keysOf]) w (fun W hW => ?_) ?_
    · refine (Gd.parse_good s _ j T h.good W ((hT.below hW).mono hW.size) ((hV.below hW).mono hW.size)).mono ?_
      rintro e w' ⟨a, b, c, d, rfl, _, hb⟩
      exact ⟨T.kind, a, b, c, d, rfl, rfl, hb⟩
    · rintro k x y c d rfl W hW
      exact map_other T.kind h5 x y c d W
def litA : ByteArray := ⟨#[123, 34, 97, 34, 58, 49, 125]⟩
theorem lit_toks : TToks litA 1 (flat [(.mk 3 ⟨#[34, 97, 34]⟩ 1 ⟨#[97]⟩ true [] [], .mk 2 ⟨#[49]⟩ 5 ⟨#[]⟩ true [] [])]) := by
  have e1 : litA.extract 1 litA.size = ⟨#[34, 97, 34, 58, 49, 125]⟩ := by decide +kernel
  have e2 : litA.extract 5 litA.size = ⟨#[49, 125]⟩ := by decide +kernel
  have e3 : (⟨#[49, 125]⟩ : ByteArray).extract 0 1 = ⟨#[49]⟩ := by decide +kernel
  have hn := one_text
  refine .val (n := 3) ?_ (.skip (by decide) (.inr (.inr (by decide +kernel))) (.val (n := 1) ?_ (.stop (by decide) (.inr (by decide +kernel)))))
  · show TVal (litA.extract 1 litA.size) 3 _
    rw [e1]
    exact ⟨by decide +kernel, by decide, by decide, .inl ⟨rfl, by decide +kernel, [97], by decide +kernel, by decide +kernel⟩⟩
  · show TVal (litA.extract 5 litA.size) 1 _
    rw [e2]
    have h := num_text (s := (⟨#[49]⟩ : ByteArray)) (i := 0) (by decide) (by decide) hn.good (by decide)
    rw [hn.end_] at h
    have h2 := h.1
    refine ⟨by decide +kernel, by decide, by decide, .inr (.inr (.inl ⟨rfl, .inr (by decide +kernel), ?_, fun x h1 h2 => by omega, fun _ => by unfold stopc; decide +kernel⟩))⟩
    show NumS ((⟨#[49, 125]⟩ : ByteArray).extract 0 1)
    rw [e3]
    have e4 : (⟨#[49]⟩ : ByteArray).extract 0 1 = ⟨#[49]⟩ := by decide +kernel
    rw [← e4]
    exact h2
theorem lit_get (w : World) (hT : Tabs w w.heap.size) (hV : ErrVars w w.heap.size) : GetOk litA ⟨#[97]⟩ [(.mk 3 ⟨#[34, 97, 34]⟩ 1 ⟨#[97]⟩ true [] [], .mk 2 ⟨#[49]⟩ 5 ⟨#[]⟩ true [] [])] w := by
  refine get_object litA 0 ⟨by decide, by decide, by decide, fun q h1 h2 => by omega⟩ (by decide) (by decide +kernel) _ ?_ ?_ ?_ ?_ _ (by decide) w hT hV
  · have e : litA.extract (0 : Int).toNat litA.size = litA := by decide +kernel
    rw [e]
    exact lit_toks
  · intro a ha
    simp only [List.mem_singleton] at ha
    subst ha
    rfl
  · intro a ha
    simp only [List.mem_singleton] at ha
    subst ha
    rfl
  · simp [keysOf]
set_option maxRecDepth 100000 in
set_option maxHeartbeats 8000000 in
theorem tobj_kind (k : Int) (hk : k ≠ 5) (r : ByteArray) (a : Int) (s : ByteArray) (p : Bool) (A5 : Option Addr) (n5 c5 : Nat) (A6 : Option Addr) (n6 c6 : Nat) (w : World) : Calls Tryz.prog 12 #[.agg #[.int .i64 k, .string r, .int .i64 a, .string s, .bool p, .slice A5 n5 c5, .slice A6 n6 c6]] w fun e w' => e = .returned (.bool false) ∧ Below w.heap.size w w' := by
  have d1 : (k == 5) = false := beq_eq_false_iff_ne.mpr hk
  have HB := Aside0.mk ((Below.refl w.heap.size w).alloc (Nat.le_refl _) (Obj.cells #[.int .i64 k, .string r, .int .i64 a, .string s, .bool p, .slice A5 n5 c5, .slice A6 n6 c6] 25))
  clear hk
  go_enter Tryz.func12, Tryz.ntmps12
  go_wp2
  go_ret
  exact ⟨rfl, HB.out⟩
set_option maxRecDepth 100000 in
set_option maxHeartbeats 8000000 in
theorem tobj_is (r : ByteArray) (hb : bt r 0 = 91 ∨ bt r 0 = 123) (a : Int) (s : ByteArray) (p : Bool) (A5 : Option Addr) (n5 c5 : Nat) (A6 : Option Addr) (n6 c6 : Nat) (w : World) : Calls Tryz.prog 12 #[.agg #[.int .i64 5, .string r, .int .i64 a, .string s, .bool p, .slice A5 n5 c5, .slice A6 n6 c6]] w fun e w' => e = .returned (.bool (bt r 0 == 123)) ∧ Below w.heap.size w w' := by
  have hz : 0 < (r.size : Int) := lt_of_bt (by omega)
  have hzn : 0 < r.size := by omega
  have hne : ¬ (r = ByteArray.empty) := by rintro rfl; exact absurd hzn (by decide)
  have hne2 : ¬ (r = (⟨#[]⟩ : ByteArray)) := by rintro rfl; exact absurd hzn (by decide)
  have hne3 : r.toList.isEmpty = false := by rw [← decide_eq_emptyBytes]; exact decide_eq_false hne
  have hx := Bt.bt_at0 r
  have HB := Aside0.mk ((Below.refl w.heap.size w).alloc (Nat.le_refl _) (Obj.cells #[.int .i64 5, .string r, .int .i64 a, .string s, .bool p, .slice A5 n5 c5, .slice A6 n6 c6] 25))
  rcases hb with hb | hb
  all_goals
    rw [hb] at hx ⊢
    clear hb
    go_enter Tryz.func12, Tryz.ntmps12
    go_wp2
    go_ret
    exact ⟨rfl, HB.out⟩
end Go.Proofs.YtldfejbmdonaoaaGreatDoor.Mo
namespace Go.Proofs.YtldfejbmdonaoaaGreatDoor.Ml
open Go.RowKit Go.Maps YtldfejbmdonaoaaGreatDoorW.PrintWords YtldfejbmdonaoaaGreatDoorW.PrintLast YtldfejbmdonaoaaGreatDoorW.PrintMore Tw Tf Tp Te At Pz Nx Gp Gv Gn Gi Ak Al Am Ar Aq Ry Mm Mp Mg Qp Mo
set_option linter.unusedVariables false
set_option linter.unusedSimpArgs false
theorem keys_n {w : World} {ok : Nat → Prop} {k : Int} {r : ByteArray} {a : Int} {s : ByteArray} {p : Bool} {A5 : Option Addr} {n5 c5 : Nat} {iv : Value} {T : JT} (h : TreeAt w ok (cells7 k r a s p (.slice A5 n5 c5) iv) T) : n5 = T.keys.length ∧ n5 ≤ c5 ∧ c5 ≤ maxLen ∧ ∀ j (hj : j < T.keys.length), ∃ q, A5 = some ⟨q, 0, none⟩ ∧ q < w.heap.size ∧ w.cell? ⟨q, j, none⟩ = some (.string T.keys[j]) := by
  generalize hcs : cells7 k r a s p (.slice A5 n5 c5) iv = cs at h
  cases h with
  | mk k' r' a' s' p' kv' iv' K I cs hk hc hi =>
    simp only [cells7, List.cons.injEq, and_true] at hcs
    obtain ⟨_, _, _, _, _, rfl, _⟩ := hcs
    obtain ⟨A', c', e, ⟨h1, h2⟩, hcell⟩ := hk
    injection e with e1 e2 e3
    subst e1 e2 e3
    refine ⟨rfl, h1, h2, fun j hj => ?_⟩
    replace hj : j < K.length := hj
    obtain ⟨q, hA, hq, hcc⟩ := hcell (by omega)
    exact ⟨q, hA, lt_of_cell (hcc j hj), hcc j hj⟩
set_option maxRecDepth 100000 in
set_option maxHeartbeats 8000000 in
theorem map_law (s : ByteArray) (kk : Int) (w : World) (hs : s.size ≤ 140737488351232) (hk : (Lit.int .u8 kk).wf = true) (hT : Tabs w w.heap.size) (hV : ErrVars w w.heap.size) :
    Calls Tryz.prog 4 #[.string s, .int .u8 kk] w fun e w' => e = .returned (.bool true) ∧ Below w.heap.size w w' := by
  have hkk : 0 ≤ kk ∧ kk ≤ 255 := by
    have h : IntKind.min .u8 ≤ kk ∧ kk ≤ IntKind.max .u8 := by simpa [Lit.wf] using hk
    exact h
  clear hk
  by_cases c1 : (2147483647 : Int) < (s.size : Int)
  · clear hT hV
    go_enter Tryz.func4, Tryz.ntmps4
    go_wp2_with fail
    go_ret
    exact ⟨rfl, Below.refl _ _⟩
  have HTV := Aside0.mk (fun (W : World) (hb : Below w.heap.size w W) => And.intro ((hT.below hb).mono hb.size) ((hV.below hb).mono hb.size))
  have HKK := Aside0.mk hkk
  clear hT hV hkk
  go_enter Tryz.func4, Tryz.ntmps4
  go_wp2_with fail
  refine (read_told s _).mono ?_
  rintro e w1 ⟨T, ok, A5, n5, c5, A6, n6, c6, rfl, htree, hok, hb1⟩
  cases ok with
  | false =>
    clear htree hok
    go_wp2_with fail
    go_ret
    exact ⟨rfl, below_alloc hb1 _⟩
  | true =>
  obtain ⟨j, hj⟩ := hok rfl
  have HJ := Aside0.mk hj
  have HTR := Aside0.mk htree
  have HB1 := Aside0.mk (below_alloc hb1 (.cells #[.int .i64 T.kind, .string T.raw, .int .i64 T.place, .string T.str, .bool T.pairs, .slice A5 n5 c5, .slice A6 n6 c6] 25))
  have HX1 := Aside0.mk (heap_alloc_new w1 (.cells #[.int .i64 T.kind, .string T.raw, .int .i64 T.place, .string T.str, .bool T.pairs, .slice A5 n5 c5, .slice A6 n6 c6] 25))
  have HPL := Aside0.mk (fun W => plain_all htree W)
  have HW1 := Aside0.mk (Below.alloc (Below.refl w1.heap.size w1) (Nat.le_refl _) (.cells #[.int .i64 T.kind, .string T.raw, .int .i64 T.place, .string T.str, .bool T.pairs, .slice A5 n5 c5, .slice A6 n6 c6] 25))
  clear hok hb1 hj htree c1
  go_wp2_with fail
  refine (HPL.out _ HW1.out.size (fun q _ h => HW1.out.block q h)).mono ?_
  rintro e w2 ⟨q, rfl, hpl, hb2⟩
  have HB2 := Aside0.mk (below_then HB1.out HB1.out.size hb2)
  have HW2 := Aside0.mk (below_then HW1.out HW1.out.size hb2)
  have hx2 := blk_below HX1.out hb2
  have HX2 := Aside0.mk hx2
  have p0 := (blk_cell hx2 0).trans (rfl : _ = some (Value.int .i64 T.kind))
  have p1 := (blk_cell hx2 1).trans (rfl : _ = some (Value.string T.raw))
  have p2 := (blk_cell hx2 2).trans (rfl : _ = some (Value.int .i64 T.place))
  have p3 := (blk_cell hx2 3).trans (rfl : _ = some (Value.string T.str))
  have p4 := (blk_cell hx2 4).trans (rfl : _ = some (Value.bool T.pairs))
  have p5 := (blk_cell hx2 5).trans (rfl : _ = some (Value.slice A5 n5 c5))
  have p6 := (blk_cell hx2 6).trans (rfl : _ = some (Value.slice A6 n6 c6))
  clear hb2 hx2
  cases q with
  | false =>
    clear hpl
    go_wp2_with fail
    go_ret
    exact ⟨rfl, HB2.out⟩
  | true =>
  have HPI := Aside0.mk (hpl rfl)
  have HOB : Aside0 (∀ W, ∃ q : Bool, (q = true → T.kind = 5 ∧ bt s (runEnd ws s 0) = 123) ∧ (q = false → T.kind = 5 → bt s (runEnd ws s 0) = 91) ∧ Calls Tryz.prog 12 #[.agg #[.int .i64 T.kind, .string T.raw, .int .i64 T.place, .string T.str, .bool T.pairs, .slice A5 n5 c5, .slice A6 n6 c6]] W fun e w' => e = .returned (.bool q) ∧ Below W.heap.size W w') := ⟨fun W => by
    by_cases h5 : T.kind = 5
    · have hraw := raw_first HJ.out.good
      have hd : bt s (runEnd ws s 0) = 91 ∨ bt s (runEnd ws s 0) = 123 := by
        rcases HJ.out.good.is with ⟨h3, _⟩ | ⟨n, hn, _⟩
        · omega
        · rcases hn with ⟨_, h, _⟩ | ⟨h, _⟩ | ⟨⟨h, _⟩ | ⟨h, _⟩ | ⟨h, _⟩, _⟩ <;> omega
      refine ⟨bt s (runEnd ws s 0) == 123, fun h => ⟨h5, by simpa using h⟩, fun h _ => by rcases hd with h1 | h1; exact h1; rw [h1] at h; exact absurd h (by decide), ?_⟩
      rw [h5, ← hraw.1]
      exact tobj_is T.raw (by rw [hraw.1]; exact hd) T.place T.str T.pairs A5 n5 c5 A6 n6 c6 W
    · exact ⟨false, fun h => absurd h (by decide), fun _ h => absurd h h5, tobj_kind T.kind h5 T.raw T.place T.str T.pairs A5 n5 c5 A6 n6 c6 W⟩⟩
  clear hpl
  go_wp2_with fail
  obtain ⟨q, hq1, hq2, hcall⟩ := HOB.out w2
  refine hcall.mono ?_
  clear hcall HOB
  rintro e w3 ⟨rfl, hb3⟩
  have HB3 := Aside0.mk (below_then HB2.out HB2.out.size hb3)
  have HW3 := Aside0.mk (below_then HW2.out HW2.out.size hb3)
  have hx3 := blk_below HX2.out hb3
  have HX3 := Aside0.mk hx3
  clear p0 p1 p2 p3 p4 p5 p6 HX2 HX1
  have p5 := (blk_cell hx3 5).trans (rfl : _ = some (Value.slice A5 n5 c5))
  clear hb3 hx3
  obtain ⟨e5, _, _, _⟩ := keys_n HTR.out
  subst e5
  cases q with
  | false =>
    have HG : Aside0 (∀ W, Below w.heap.size w W → GetOk s ⟨#[97]⟩ [] W) := ⟨fun W hW => get_none HJ.out (hq2 rfl) _ (by decide) W (HTV.out W hW).1 (HTV.out W hW).2⟩
    have HL : Aside0 (∀ W, Below w.heap.size w W → GetOk litA ⟨#[97]⟩ [(.mk 3 ⟨#[34, 97, 34]⟩ 1 ⟨#[97]⟩ true [] [], .mk 2 ⟨#[49]⟩ 5 ⟨#[]⟩ true [] [])] W) := ⟨fun W hW => lit_get W (HTV.out W hW).1 (HTV.out W hW).2⟩
    clear hq1 hq2
    go_wp2_with fail
    refine Calls.mono (HG.out w3 HB3.out) ?_
    rintro e w4 ⟨k1, a1, b1, f1, d1, q1, rfl, _, hb4⟩
    have HB4 := Aside0.mk (below_then HB3.out HB3.out.size hb4)
    clear hb4 HG
    go_wp2_with fail
    refine Calls.mono (HL.out _ (below_alloc HB4.out _)) ?_
    rintro e w5 ⟨k2, a2, b2, f2, d2, q2, rfl, _, hb5⟩
    have HB5 := Aside0.mk (below_then (below_alloc HB4.out _) (below_alloc HB4.out _).size hb5)
    clear hb5 HL
    go_wp2
    go_ret
    exact ⟨rfl, below_alloc HB5.out _⟩
  | true =>
    obtain ⟨h5, h123⟩ := hq1 rfl
    obtain ⟨ps, ht, hK, hI, hk3, hkp⟩ := keys_toks HJ.out h5 h123
    clear hq1 hq2
    have hnd : (keysOf ps).Nodup := by rw [← hK]; exact HPI.out.2.2
    have HGO : Aside0 (∀ (key : ByteArray), key.size ≤ 140737488355328 → ∀ W, Below w.heap.size w W → GetOk s key ps W) := ⟨fun key hkey W hW => get_object s _ HJ.out.good.lead HJ.out.size h123 ps ht hk3 (hkp HPI.out.1) hnd key hkey W (HTV.out W hW).1 (HTV.out W hW).2⟩
    by_cases hz : T.keys.length = 0
    · have hps : ps = [] := by
        rw [hK] at hz
        unfold keysOf at hz
        rw [List.length_map] at hz
        exact List.eq_nil_of_length_eq_zero hz
      subst hps
      have HG : Aside0 (∀ W, Below w.heap.size w W → GetOk s ⟨#[97]⟩ [] W) := ⟨HGO.out _ (by decide)⟩
      have HL : Aside0 (∀ W, Below w.heap.size w W → GetOk litA ⟨#[97]⟩ [(.mk 3 ⟨#[34, 97, 34]⟩ 1 ⟨#[97]⟩ true [] [], .mk 2 ⟨#[49]⟩ 5 ⟨#[]⟩ true [] [])] W) := ⟨fun W hW => lit_get W (HTV.out W hW).1 (HTV.out W hW).2⟩
      have z1 : ((T.keys.length : Int) == 0) = true := by rw [hz]; rfl
      have z2 : decide ((T.keys.length : Int) = 0) = true := by rw [hz]; rfl
      clear hz HGO ht hK hI hk3 hkp hnd h5 h123
      go_wp2_with fail
      refine Calls.mono (HG.out w3 HB3.out) ?_
      rintro e w4 ⟨k1, a1, b1, f1, d1, q1, rfl, _, hb4⟩
      have HB4 := Aside0.mk (below_then HB3.out HB3.out.size hb4)
      clear hb4 HG
      go_wp2_with fail
      refine Calls.mono (HL.out _ (below_alloc HB4.out _)) ?_
      rintro e w5 ⟨k2, a2, b2, f2, d2, q2, rfl, _, hb5⟩
      have HB5 := Aside0.mk (below_then (below_alloc HB4.out _) (below_alloc HB4.out _).size hb5)
      clear hb5 HL
      go_wp2
      go_ret
      exact ⟨rfl, below_alloc HB5.out _⟩
    · have hlenK : T.keys.length = ps.length := by rw [hK]; simp [keysOf]
      have hlenI : T.items.length = ps.length := by rw [hI]; simp
      have hkk := HKK.out
      obtain ⟨i, hi1, hi2⟩ : ∃ i : Nat, Int.tmod kk (T.keys.length : Int) = (i : Int) ∧ i < T.keys.length := by
        have h1 := Int.tmod_nonneg (T.keys.length : Int) hkk.1
        have h2 := Int.tmod_lt_of_pos kk (show (0 : Int) < (T.keys.length : Int) by omega)
        exact ⟨(Int.tmod kk T.keys.length).toNat, by omega, by omega⟩
      have hi3 : i < ps.length := by omega
      have hi4 : i < T.items.length := by omega
      have hkey : T.keys[i] = ps[i].1.str := by rw [List.getElem_of_eq hK hi2]; simp [keysOf]
      have hitem : T.items[i] = ps[i].2 := by rw [List.getElem_of_eq hI hi4]; simp
      have hks : T.keys[i].size ≤ 140737488355328 := by
        rw [hkey]
        exact key_small (by rw [ByteArray.size_extract]; have := HJ.out.size; omega) ht (List.getElem_mem hi3) (hk3 _ (List.getElem_mem hi3))
      obtain ⟨_, hc1, hc2, hcell⟩ := keys_n HTR.out
      obtain ⟨qk, hA5, hqk, kc⟩ := hcell i hi2
      have e6 := items_n HTR.out
      subst e6
      obtain ⟨q6, hA6, _, hq6, B5, m5, e5, B7, m7, e7, x0, x1, x2, x3, x4, x5, x6, htj⟩ := item_cells HTR.out hi4
      clear htj
      subst hA5 hA6
      obtain ⟨U, hU⟩ : ∃ U, T.items[i] = U := ⟨_, rfl⟩
      obtain ⟨K0, hK0⟩ : ∃ K0, T.keys[i] = K0 := ⟨_, rfl⟩
      rw [hU] at x0 x1 hitem
      rw [hK0] at kc hkey hks
      have kc3 := (HW3.out.cell hqk).trans kc
      have HX0 := Aside0.mk (And.intro hq6 (And.intro x0 x1))
      have HVAL : Aside0 (∀ (k : Int) (a : ByteArray), (∀ (j : Nat) (hj : j < ps.length), K0 = ps[j].1.str → k = ps[j].2.kind ∧ a = ps[j].2.raw) → k = U.kind ∧ a = U.raw) := ⟨fun k a h => by rw [hitem]; exact h i hi3 hkey⟩
      have HG : Aside0 (∀ W, Below w.heap.size w W → GetOk s K0 ps W) := ⟨HGO.out K0 hks⟩
      have z1 : ((T.keys.length : Int) == 0) = false := beq_eq_false_iff_ne.mpr (by omega)
      have z2 : decide ((T.keys.length : Int) = 0) = false := decide_eq_false (by omega)
      have q0 : (0 : Int) ≤ (i : Int) := Int.natCast_nonneg i
      have q1 : ((i : Int) < (T.keys.length : Int)) = True := eq_true (by omega)
      have q2 : decide ((i : Int) < (T.keys.length : Int)) = true := decide_eq_true (by omega)
      have q3 : (i < T.keys.length) = True := eq_true hi2
      have q4 : decide (i < T.keys.length) = true := decide_eq_true hi2
      have r1 : ((i : Int) < (T.items.length : Int)) = True := eq_true (by omega)
      have r2 : decide ((i : Int) < (T.items.length : Int)) = true := decide_eq_true (by omega)
      have r3 : (i < T.items.length) = True := eq_true hi4
      have r4 : decide (i < T.items.length) = true := decide_eq_true hi4
      have hi5 : (i : Int) ≤ 9223372036854775806 := by
        have : maxLen = 9223372036854775807 := rfl
        omega
      have k0 := hkk.1
      have k1 := hkk.2
      have z3 : ¬ ps = [] := by rintro rfl; simp at hi3
      have z4 : (ps = []) = False := eq_false z3
      rw [hlenK] at *
      clear hlenK hlenI hkk hi2 hi3 hi4 hkey hitem hks hc1 hc2 hcell kc hqk hq6 x0 x1 x2 x3 x4 x5 x6 HGO ht hK hI hk3 hkp hnd h5 h123 hU hK0 hz
      go_wp2_with fail
      refine Calls.mono (HG.out w3 HB3.out) ?_
      rintro e w4 ⟨k1, a1, b1, f1, d1, g1, rfl, hv, hb4⟩
      obtain ⟨rfl, rfl⟩ := HVAL.out _ _ hv
      have HB4 := Aside0.mk (below_then HB3.out HB3.out.size hb4)
      have HW4 := Aside0.mk (below_then HW3.out HW3.out.size hb4)
      have hx4 := blk_below HX3.out hb4
      have p5 := (blk_cell hx4 5).trans (rfl : _ = some (Value.slice (some ⟨qk, 0, none⟩) ps.length c5))
      have p6 := (blk_cell hx4 6).trans (rfl : _ = some (Value.slice (some ⟨q6, 0, none⟩) T.items.length c6))
      have v0 := (HW4.out.cell HX0.out.1).trans HX0.out.2.1
      have v1 := (HW4.out.cell HX0.out.1).trans HX0.out.2.2
      clear hv hb4 hx4 HG kc3
      have lift : ∀ {q o : Nat} {v : Value}, w4.cell? ⟨q, o, none⟩ = some v → ∀ ob, (w4.alloc ob).cell? ⟨q, o, none⟩ = some v := fun h ob => (Below.cell (Below.alloc (Below.refl w4.heap.size w4) (Nat.le_refl _) ob) (lt_of_cell h)).trans h
      have y5 := lift p5
      have y6 := lift p6
      have u0 := lift v0
      have u1 := lift v1
      clear lift
      go_wp2_with fail
      go_quiet (fail)
      go_wp2
      go_ret
      exact ⟨rfl, pw_below_drewN (below_alloc HB4.out _) _⟩
end Go.Proofs.YtldfejbmdonaoaaGreatDoor.Ml