/- Joined by a program of mine from texts of this claim: Mm. -/
import Derived.Test.YtldfejbmdonaoaaGreatDoorZB43
import Derived.Maps.OwnSet
import Derived.Maps.Views
namespace Go.Proofs.YtldfejbmdonaoaaGreatDoor.Mm
open Go.RowKit Go.Maps YtldfejbmdonaoaaGreatDoorW.PrintWords YtldfejbmdonaoaaGreatDoorW.PrintLast YtldfejbmdonaoaaGreatDoorW.PrintMore Tw Tp Te At Pz Nx Gp Gv Ak Al Am PFnAppendParse
set_option linter.unusedVariables false
set_option linter.unusedSimpArgs false
def RH (v : Value) : Option (DataW Value × List MemPlace) := some (.held v, [])
def RVv (T : JT) (v : Value) : Prop := ∃ (b : ByteArray) (c : Nat) (d : Int), v = .agg #[.int .i64 T.kind, .string T.raw, .string b, .float .f64 c, .int .i64 d, .slice none 0 0] ∧ (T.kind ≠ 0 ∨ 0 < T.raw.size)
def lit (s : ByteArray) : Lit := .string s.data.toList
theorem lit_inj {a b : ByteArray} (h : lit a = lit b) : a = b := by
  unfold lit at h
  injection h with h
  exact WideShapes.bytes_inj h
inductive Ents : List (JT × JT) → DataW Value → Prop where
  | nil : Ents [] (.map [])
  | snoc {ps : List (JT × JT)} {D : DataW Value} {k T : JT} {v : Value} (h : Ents ps D) (hv : RVv T v) : Ents (ps ++ [(k, T)]) (D.put (lit k.str) (.held v))
def keysOf (ps : List (JT × JT)) : List ByteArray := ps.map fun a => a.1.str
theorem Ents.tidy {ps : List (JT × JT)} {D : DataW Value} (h : Ents ps D) : Tidy D := by
  induction h with
  | nil => exact tidy_empty
  | snoc h hv ih =>
    refine ih.put ?_ _
    exact True.intro
theorem Ents.has_not {ps : List (JT × JT)} {D : DataW Value} (h : Ents ps D) {s : ByteArray} (hs : s ∉ keysOf ps) : has D (lit s) = false := by
  induction h with
  | nil => rfl
  | @snoc ps D k T v h hv ih =>
    simp only [keysOf, List.map_append, List.mem_append, List.map_cons, List.map_nil, List.mem_singleton, not_or] at hs
    rw [has_put_other (fun e => hs.2 (lit_inj e))]
    exact ih hs.1
theorem Ents.size {ps : List (JT × JT)} {D : DataW Value} (h : Ents ps D) : (keysOf ps).Nodup → Maps.size D = ps.length := by
  induction h with
  | nil => intro _; rfl
  | @snoc ps D k T v h hv ih =>
    intro hn
    have hn2 : (keysOf ps).Nodup ∧ k.str ∉ keysOf ps := by
      simp only [keysOf, List.map_append, List.map_cons, List.map_nil] at hn
      rw [List.nodup_append] at hn
      refine ⟨hn.1, fun hm => ?_⟩
      exact hn.2.2 _ hm _ (by simp) rfl
    rw [size_put h.tidy, h.has_not hn2.2, List.length_append, List.length_singleton, ih hn2.1]
    rfl
theorem Ents.get {ps : List (JT × JT)} {D : DataW Value} (h : Ents ps D) : (keysOf ps).Nodup → ∀ (i : Nat) (hi : i < ps.length), ∃ v, RVv ps[i].2 v ∧ ∀ z, D.atKey (lit ps[i].1.str) z = .held v := by
  induction h with
  | nil => exact fun _ i hi => absurd hi (Nat.not_lt_zero i)
  | @snoc ps D k T v h hv ih =>
    intro hn i hi
    have hn2 : (keysOf ps).Nodup ∧ k.str ∉ keysOf ps := by
      simp only [keysOf, List.map_append, List.map_cons, List.map_nil] at hn
      rw [List.nodup_append] at hn
      refine ⟨hn.1, fun hm => ?_⟩
      exact hn.2.2 _ hm _ (by simp) rfl
    rw [List.length_append, List.length_singleton] at hi
    by_cases c : i < ps.length
    · obtain ⟨u, h1, h2⟩ := ih hn2.1 i c
      rw [List.getElem_append_left c]
      refine ⟨u, h1, fun z => ?_⟩
      rw [atKey_put_other, h2 z]
      intro e
      exact hn2.2 (by rw [← lit_inj e]; exact List.mem_map.mpr ⟨ps[i], List.getElem_mem c, rfl⟩)
    · have e : i = ps.length := by omega
      subst e
      refine ⟨v, by simpa using hv, fun z => ?_⟩
      have h3 := atKey_put_same (k := lit k.str) h.tidy.isMap (show WideAt.IsKeyLit (lit k.str) from trivial) (.held v) z
      simpa using h3
theorem law : Keyed Tryz.prog 9 := string_keyed Tryz.underlying9
theorem zeroE (w : World) : (zeroValue 50).run Tryz.prog w = .ok (.agg #[.int .i64 0, .string ⟨#[]⟩, .string ⟨#[]⟩, .float .f64 0, .int .i64 0, .slice none 0 0]) w := by kernel_rfl
theorem key_of {s : ByteArray} (h : s.size ≤ 140737488355328) : keyOf Tryz.prog 9 (.string s) = some (lit s) := WideMaps.keyOf_string_mk Tryz.underlying9 (by unfold maxLen; omega)
theorem look_new {w : World} {b n : Nat} {ps : List (JT × JT)} {D : DataW Value} (h : w.ownsMap Tryz.prog 9 RH b n D) (hE : Ents ps D) {s : ByteArray} (hs : s.size ≤ 140737488355328) (hn : s ∉ keysOf ps) :
    (Instr.lookup 54 (.map (some b)) (.string s) true).run Tryz.prog w = .ok (.tuple #[.agg #[.int .i64 0, .string ⟨#[]⟩, .string ⟨#[]⟩, .float .f64 0, .int .i64 0, .slice none 0 0], .bool false]) w := by
  have hno := hE.has_not hn
  obtain ⟨v, qs, hrun, hv⟩ := h.look_ok law Tryz.underlying54 (zeroE w) (zd := .held (.agg #[.int .i64 0, .string ⟨#[]⟩, .string ⟨#[]⟩, .float .f64 0, .int .i64 0, .slice none 0 0])) (zp := []) rfl (key_of hs)
  rw [hno] at hrun
  rw [atKey_of_not_has hno] at hv
  unfold RH at hv
  simp only [Option.some.injEq, Prod.mk.injEq, DataW.held.injEq] at hv
  rw [hrun, hv.1]
def MMem (w wr : World) (tb rb vb kb B : Nat) (u b : ByteArray) (c : Nat) (d : Int) (D : DataW Value) (ps : List (JT × JT)) (V KV : Array Value) : Prop :=
  wr.heap[tb]? = some (.cells #[.int .i64 5, .string u, .string b, .float .f64 c, .int .i64 d, .slice none 0 0] 50 (0, 0)) ∧
  wr.heap[rb]? = some (.cells #[.slice none 0 0, .slice none 0 0, .map (some B), .map none, .int .u8 123] 75 (0, 0)) ∧
  wr.heap[vb]? = some (.cells V 50 (0, 0)) ∧
  wr.heap[kb]? = some (.cells KV 50 (0, 0)) ∧
  wr.ownsMap Tryz.prog 9 RH B ps.length D ∧ Ents ps D ∧ Below tb w wr ∧ B < wr.heap.size
section
variable {w wr : World} {tb rb vb kb B : Nat} {u b : ByteArray} {c : Nat} {d : Int} {D : DataW Value} {ps : List (JT × JT)} {V KV : Array Value} (hx : Boxes tb rb vb kb B)
include hx
theorem MMem.set (h : MMem w wr tb rb vb kb B u b c d D ps V KV) (j : Nat) (x : Value) : MMem w (wr.setCell ⟨vb, j, none⟩ x) tb rb vb kb B u b c d D ps (V.setIfInBounds j x) KV := by
  obtain ⟨h1, h2, h3, h4, h5, h6, h7, h8⟩ := h
  obtain ⟨x1, x2, x3, x4⟩ := hx
  exact ⟨blk_far h1 (by show tb ≠ vb; omega) _, blk_far h2 (by show rb ≠ vb; omega) _, blk_set h3 j x, blk_far h4 (by show kb ≠ vb; omega) _, h5.setCell (by show B ≠ vb; omega) _, h6, h7.setCell (by show tb ≤ vb; omega) _, by simpa [World.setCell] using h8⟩
theorem MMem.setK (h : MMem w wr tb rb vb kb B u b c d D ps V KV) (j : Nat) (x : Value) : MMem w (wr.setCell ⟨kb, j, none⟩ x) tb rb vb kb B u b c d D ps V (KV.setIfInBounds j x) := by
  obtain ⟨h1, h2, h3, h4, h5, h6, h7, h8⟩ := h
  obtain ⟨x1, x2, x3, x4⟩ := hx
  exact ⟨blk_far h1 (by show tb ≠ kb; omega) _, blk_far h2 (by show rb ≠ kb; omega) _, blk_far h3 (by show vb ≠ kb; omega) _, blk_set h4 j x, h5.setCell (by show B ≠ kb; omega) _, h6, h7.setCell (by show tb ≤ kb; omega) _, by simpa [World.setCell] using h8⟩
theorem MMem.below {w5 : World} (h : MMem w wr tb rb vb kb B u b c d D ps V KV) (hb : Below wr.heap.size wr w5) : MMem w w5 tb rb vb kb B u b c d D ps V KV := by
  obtain ⟨h1, h2, h3, h4, h5, h6, h7, h8⟩ := h
  obtain ⟨x1, x2, x3, x4⟩ := hx
  have := blk_lt h1
  exact ⟨blk_below h1 hb, blk_below h2 hb, blk_below h3 hb, blk_below h4 hb, h5.kept (grown_of_below hb none) (by simp), h6, below_then h7 (by omega) hb, Nat.lt_of_lt_of_le h8 hb.size⟩
theorem MMem.store {w1 : World} {k T : JT} {v : Value} (h : MMem w wr tb rb vb kb B u b c d D ps V KV) (hv : RVv T v) (hown : w1.ownsMap Tryz.prog 9 RH B (ps.length + 1) (D.put (lit k.str) (.held v))) (hg : wr.grownBy w1 (some B)) :
    MMem w w1 tb rb vb kb B u b c d (D.put (lit k.str) (.held v)) (ps ++ [(k, T)]) V KV := by
  obtain ⟨h1, h2, h3, h4, h5, h6, h7, h8⟩ := h
  obtain ⟨x1, x2, x3, x4⟩ := hx
  have no : ∀ g, g < B → some g ≠ some B := fun g hg e => by injection e with e; omega
  have := blk_lt h1
  exact ⟨blk_grown h1 hg (no _ (by omega)), blk_grown h2 hg (no _ (by omega)), blk_grown h3 hg (no _ (by omega)), blk_grown h4 hg (no _ (by omega)), by rw [List.length_append]; exact hown, .snoc h6 hv, h7.grown hg (by omega) (fun q hq => by injection hq with hq; omega), Nat.lt_of_lt_of_le h8 hg.size⟩
end
theorem text_len {s : ByteArray} : ∀ (n : Nat) (i : Int) {l : List Int} {p : Bool} {j : Int}, textR s n i = some (l, p, j) → (l.length : Int) ≤ 4 * (j - i) := by
  intro n
  induction n with
  | zero => intro i l p j h; exact absurd h (by simp [textR])
  | succ n ih =>
    intro i l p j h
    unfold textR at h
    by_cases c1 : bt s i < 32
    · rw [if_pos c1] at h; exact absurd h (by simp)
    rw [if_neg c1] at h
    by_cases c2 : bt s i = 34
    · rw [if_pos c2] at h
      simp only [Option.some.injEq, Prod.mk.injEq] at h
      obtain ⟨rfl, _, rfl⟩ := h
      simp only [List.length_nil]
      omega
    rw [if_neg c2] at h
    by_cases c3 : bt s i = 92
    · rw [if_pos c3] at h
      replace h := Option.bind_eq_some_iff.mp h
      obtain ⟨⟨l1, p1, j1⟩, he, h⟩ := h
      replace h := Option.bind_eq_some_iff.mp h
      obtain ⟨⟨l2, p2, j2⟩, hr, h⟩ := h
      simp only [Option.some.injEq, Prod.mk.injEq] at h
      obtain ⟨rfl, _, rfl⟩ := h
      have e1 : i + 1 + 1 ≤ j1 ∧ j1 ≤ (s.size : Int) ∧ l1.length ≤ 4 := escR_le he
      have e2 : (l2.length : Int) ≤ 4 * (j2 - j1) := ih _ hr
      simp only [List.length_append]
      omega
    · rw [if_neg c3] at h
      replace h := Option.bind_eq_some_iff.mp h
      obtain ⟨⟨l2, p2, j2⟩, hr, h⟩ := h
      simp only [Option.some.injEq, Prod.mk.injEq] at h
      obtain ⟨rfl, _, rfl⟩ := h
      have e2 : (l2.length : Int) ≤ 4 * (j2 - (i + 1)) := ih _ hr
      simp only [List.length_cons]
      omega
theorem key_size {t : ByteArray} {n : Int} {T : JT} (h : TVal t n T) (ht : (t.size : Int) ≤ 65536) (h3 : T.kind = 3) : T.str.size ≤ 140737488355328 := by
  rcases h.2.2.2 with ⟨_, _, l, hR, he⟩ | ⟨h, _⟩ | ⟨h, _⟩ | ⟨⟨h, _⟩ | ⟨h, _⟩ | ⟨h, _⟩, _⟩
  · have h1 := text_len _ _ hR
    have h2 := h.2.2.1
    have h4 := h.2.1
    rw [he, strOfNums_size]
    omega
  all_goals omega
theorem flat_snoc (ps : List (JT × JT)) (k T : JT) : flat (ps ++ [(k, T)]) = flat ps ++ [k, T] := by
  induction ps with
  | nil => rfl
  | cons a r ih => simp only [List.cons_append, flat, ih]
theorem flat_at : ∀ (ps qs : List (JT × JT)) (T : JT) (l : List JT), flat ps ++ T :: l = flat qs → ∃ T2 rs, qs = ps ++ (T, T2) :: rs ∧ l = T2 :: flat rs
  | [], [], T, l, h => by simp [flat] at h
  | [], (a, b) :: r, T, l, h => by
    simp only [flat, List.nil_append, List.cons.injEq] at h
    obtain ⟨rfl, rfl⟩ := h
    exact ⟨b, r, rfl, rfl⟩
  | (a, b) :: r, [], T, l, h => by simp [flat] at h
  | (a, b) :: r, (a', b') :: r', T, l, h => by
    simp only [flat, List.cons_append, List.cons.injEq] at h
    obtain ⟨rfl, rfl, h⟩ := h
    obtain ⟨T2, rs, rfl, hl⟩ := flat_at r r' T l h
    exact ⟨T2, rs, rfl, hl⟩
theorem flat_inj : ∀ (ps qs : List (JT × JT)), flat ps = flat qs → ps = qs
  | [], [], _ => rfl
  | [], (a, b) :: r, h => by simp [flat] at h
  | (a, b) :: r, [], h => by simp [flat] at h
  | (a, b) :: r, (a', b') :: r', h => by
    simp only [flat, List.cons.injEq] at h
    obtain ⟨rfl, rfl, h⟩ := h
    rw [flat_inj r r' h]
theorem flat_len (ps : List (JT × JT)) : (flat ps).length = 2 * ps.length := by
  induction ps with
  | nil => rfl
  | cons a r ih => simp only [flat, List.length_cons, ih]; omega
theorem fiveM (w : World) (o1 o2 o3 o4 : Obj) :
    (((((w.alloc o1).alloc o2).alloc o3).alloc o4).alloc (.map #[] 0)).heap[w.heap.size]? = some o1 ∧ (((((w.alloc o1).alloc o2).alloc o3).alloc o4).alloc (.map #[] 0)).heap[w.heap.size + 1]? = some o2 ∧ (((((w.alloc o1).alloc o2).alloc o3).alloc o4).alloc (.map #[] 0)).heap[w.heap.size + 1 + 1]? = some o3 ∧
    (((((w.alloc o1).alloc o2).alloc o3).alloc o4).alloc (.map #[] 0)).heap[w.heap.size + 1 + 1 + 1]? = some o4 ∧ Below w.heap.size w (((((w.alloc o1).alloc o2).alloc o3).alloc o4).alloc (.map #[] 0)) ∧
    (((((w.alloc o1).alloc o2).alloc o3).alloc o4).alloc (.map #[] 0)).ownsMap Tryz.prog 9 RH (w.heap.size + 1 + 1 + 1 + 1) 0 (.map []) := by
  have s1 : (w.alloc o1).heap.size = w.heap.size + 1 := by simp
  have s2 : ((w.alloc o1).alloc o2).heap.size = w.heap.size + 1 + 1 := by simp
  have s3 : (((w.alloc o1).alloc o2).alloc o3).heap.size = w.heap.size + 1 + 1 + 1 := by simp
  have s4 : ((((w.alloc o1).alloc o2).alloc o3).alloc o4).heap.size = w.heap.size + 1 + 1 + 1 + 1 := by simp
  have h1 := heap_alloc_new w o1
  have h2 := heap_alloc_new (w.alloc o1) o2
  have h3 := heap_alloc_new ((w.alloc o1).alloc o2) o3
  have h4 := heap_alloc_new (((w.alloc o1).alloc o2).alloc o3) o4
  have h5 := World.ownsMap_made ((((w.alloc o1).alloc o2).alloc o3).alloc o4) Tryz.prog 9 RH
  rw [s1] at h2
  rw [s2] at h3
  rw [s3] at h4
  rw [s4] at h5
  exact ⟨blk_alloc (blk_alloc (blk_alloc (blk_alloc h1 o2) o3) o4) _, blk_alloc (blk_alloc (blk_alloc h2 o3) o4) _, blk_alloc (blk_alloc h3 o4) _, blk_alloc h4 _, ((((((Below.refl _ _).alloc (Nat.le_refl _) o1).alloc (by omega) o2).alloc (by omega) o3).alloc (by omega) o4).alloc (by omega) _), h5⟩
set_option maxRecDepth 100000 in
set_option maxHeartbeats 8000000 in
theorem object_walk (u : ByteArray) (hs : (u.size : Int) ≤ 65536) (h0 : bt u 0 = 123) (qs : List (JT × JT)) (hL : TToks u 1 (flat qs)) (hk3 : ∀ a ∈ qs, a.1.kind = 3) (hkp : ∀ a ∈ qs, a.1.pairs = true) (hnd : (keysOf qs).Nodup) (b : ByteArray) (c : Nat) (d : Int) (w : World) (hT : Tabs w w.heap.size) (hV : ErrVars w w.heap.size) :
    Calls Tryz.prog 45 #[.agg #[.int .i64 5, .string u, .string b, .float .f64 c, .int .i64 d, .slice none 0 0], .int .u8 123, .bool false] w fun e w' => ∃ (B : Nat) (D : DataW Value), e = .returned (.agg #[.slice none 0 0, .slice none 0 0, .map (some B), .map none, .int .u8 123]) ∧ w'.ownsMap Tryz.prog 9 RH B qs.length D ∧ Ents qs D ∧ Below w.heap.size w w' := by
  obtain ⟨L, hLq⟩ : ∃ L, flat qs = L := ⟨_, rfl⟩
  rw [hLq] at hL
  have HS := Aside0.mk hs
  have HL := Aside0.mk hL
  have HQ := Aside0.mk (And.intro hLq (And.intro hk3 (And.intro hkp hnd)))
  have HLEN : Aside0 (L.length ≤ 65536) := ⟨by have := ttoks_len hL; omega⟩
  have HTV := Aside0.mk (And.intro hT hV)
  have hz : 0 < (u.size : Int) := lt_of_bt (by omega)
  have hzn : 0 < u.size := by omega
  have hzd : decide (0 < u.size) = true := decide_eq_true hzn
  have hx0 := Bt.bt_at0 u
  rw [h0] at hx0
  have hmm := @run_makeMap Tryz.prog
  clear hs hL hT hV h0 hLq hk3 hkp hnd
  go_enter Tryz.func45, Tryz.ntmps45
  go_wp2_with fail
  refine wp_scope_straight ?_
  go_wp2_with fail
  refine wp_loop_rounds 1 ?_
  rw [rounds_succ]
  go_wp2_with fail
  obtain ⟨f1, f2, f3, f4, f5, hown⟩ := fiveM w (Obj.cells #[Value.int IntKind.i64 5, Value.string u, Value.string b, Value.float FloatKind.f64 c, Value.int IntKind.i64 d, Value.slice none 0 0] 50) (Obj.cells #[Value.slice none 0 0, Value.slice none 0 0, Value.map (some (w.heap.size + 1 + 1 + 1 + 1)), Value.map none, Value.int IntKind.u8 123] 75) (Obj.cells #[Value.int IntKind.i64 0, Value.string { data := #[] }, Value.string { data := #[] }, Value.float FloatKind.f64 0, Value.int IntKind.i64 0, Value.slice none 0 0] 50) (Obj.cells #[Value.int IntKind.i64 0, Value.string { data := #[] }, Value.string { data := #[] }, Value.float FloatKind.f64 0, Value.int IntKind.i64 0, Value.slice none 0 0] 50)
  obtain ⟨W0, hW0⟩ : ∃ W0, (((((w.alloc (Obj.cells #[Value.int IntKind.i64 5, Value.string u, Value.string b, Value.float FloatKind.f64 c, Value.int IntKind.i64 d, Value.slice none 0 0] 50)).alloc (Obj.cells #[Value.slice none 0 0, Value.slice none 0 0, Value.map (some (w.heap.size + 1 + 1 + 1 + 1)), Value.map none, Value.int IntKind.u8 123] 75)).alloc (Obj.cells #[Value.int IntKind.i64 0, Value.string { data := #[] }, Value.string { data := #[] }, Value.float FloatKind.f64 0, Value.int IntKind.i64 0, Value.slice none 0 0] 50)).alloc (Obj.cells #[Value.int IntKind.i64 0, Value.string { data := #[] }, Value.string { data := #[] }, Value.float FloatKind.f64 0, Value.int IntKind.i64 0, Value.slice none 0 0] 50)).alloc (Obj.map #[] 0)) = W0 := ⟨_, rfl⟩
  rw [hW0] at hown f1 f2 f3 f4 f5 ⊢
  obtain ⟨tb, htb⟩ : ∃ x, w.heap.size = x := ⟨_, rfl⟩
  obtain ⟨rb, hrb⟩ : ∃ x, tb + 1 = x := ⟨_, rfl⟩
  obtain ⟨vb, hvb⟩ : ∃ x, rb + 1 = x := ⟨_, rfl⟩
  obtain ⟨kb, hkb⟩ : ∃ x, vb + 1 = x := ⟨_, rfl⟩
  obtain ⟨B, hB⟩ : ∃ x, kb + 1 = x := ⟨_, rfl⟩
  rw [htb, hrb, hvb, hkb, hB] at hown f2
  rw [htb] at f1 f5
  rw [htb, hrb, hvb] at f3
  rw [htb, hrb, hvb, hkb] at f4
  rw [htb, hrb, hvb, hkb]
  have HM0 : Aside0 (MMem w W0 tb rb vb kb B u b c d (.map []) [] #[.int .i64 0, .string ⟨#[]⟩, .string ⟨#[]⟩, .float .f64 0, .int .i64 0, .slice none 0 0] #[.int .i64 0, .string ⟨#[]⟩, .string ⟨#[]⟩, .float .f64 0, .int .i64 0, .slice none 0 0]) := ⟨f1, f2, f3, f4, hown, .nil, f5, hown.lt⟩
  have HB := Aside0.mk (show w.heap.size = tb ∧ tb + 1 = rb ∧ rb + 1 = vb ∧ vb + 1 = kb ∧ kb + 1 = B from ⟨htb, hrb, hvb, hkb, hB⟩)
  clear hmm hx0 hz hzn hzd hown f1 f2 f3 f4 f5 hW0 htb hrb hvb hkb hB
  go_loopg [8, 10] u.size (fun kq x8 x10 wr => ∃ (i cn : Int) (ps : List (JT × JT)) (o : Bool) (K : JT) (L1 : List JT) (D : DataW Value) (k1 : Int) (a1 b1 : ByteArray) (c1 : Nat) (d1 : Int) (k3 : Int) (a3 b3 : ByteArray) (c3 : Nat) (d3 : Int), x8 = .int .i64 i ∧ x10 = .int .i64 cn ∧ Aside0 (1 ≤ i ∧ (kq : Int) ≥ (u.size : Int) - i) ∧ Aside0 (cn = 2 * (ps.length : Int) + (if o = true then 1 else 0)) ∧ Aside0 (L = flat ps ++ (if o = true then K :: L1 else L1) ∧ TToks u i L1) ∧ Aside0 (o = true → b3 = K.str ∧ K.str.size ≤ 140737488355328) ∧
    Aside0 (MMem w wr tb rb vb kb B u b c d D ps #[.int .i64 k1, .string a1, .string b1, .float .f64 c1, .int .i64 d1, .slice none 0 0] #[.int .i64 k3, .string a3, .string b3, .float .f64 c3, .int .i64 d3, .slice none 0 0]))
  case atStart => exact ⟨1, 0, [], false, .mk 0 ⟨#[]⟩ 0 ⟨#[]⟩ false [] [], L, _, _, _, _, _, _, _, _, _, _, _, rfl, rfl, ⟨by omega⟩, ⟨by simp⟩, ⟨by simp [flat], HL.out⟩, ⟨fun h => absurd h (by decide)⟩, HM0⟩
  case round =>
    clear HM0 HL
    obtain ⟨i, cn, ps, o, K, L1, D, k1, a1, b1, c1, d1, k3, a3, b3, c3, d3, rfl, rfl, HI, HCN, HL1, HO3, HM⟩ := hrel
    have hlt := ttoks_lt HL1.out.2
    have p1 : (0 : Int) ≤ i := by have := HI.out; omega
    have p4 : i ≤ 70000 := by have := HS.out; omega
    have q1 : (i < (u.size : Int)) = True := eq_true hlt
    have q2 : (i ≤ (u.size : Int)) = True := eq_true (by omega)
    have q3 : decide (i < (u.size : Int)) = true := decide_eq_true hlt
    have hx2 := bt_at u i
    have HLT := Aside0.mk hlt
    clear hlt
    rcases ttoks_cases HL1.out.2 with ⟨hc, hr⟩ | ⟨hc, hnil⟩ | ⟨n, T, l, hl, hv, hr⟩
    · have HR := Aside0.mk hr
      clear hr
      by_cases c32 : bt u i ≤ 32
      · have r1 : decide (bt u i ≤ 32) = true := decide_eq_true c32
        clear hc c32
        go_wp2_with fail
        go_roundg ((u.size : Int) - (i + 1)).toNat
        case measure => have := HI.out; have := HLT.out; omega
        case rel => exact ⟨i + 1, cn, ps, o, K, L1, D, k1, a1, b1, c1, d1, k3, a3, b3, c3, d3, (by first | rfl | (congr 1; omega)), rfl, ⟨by have := HI.out; have := HLT.out; omega⟩, HCN, ⟨⟨HL1.out.1, HR.out⟩⟩, HO3, HM⟩
      · have hc2 := hc.resolve_left c32
        clear hc c32
        rcases hc2 with hq | hq
        all_goals
          rw [hq] at hx2
          go_wp2_with fail
          go_roundg ((u.size : Int) - (i + 1)).toNat
          case measure => have := HI.out; have := HLT.out; omega
          case rel => exact ⟨i + 1, cn, ps, o, K, L1, D, k1, a1, b1, c1, d1, k3, a3, b3, c3, d3, (by first | rfl | (congr 1; omega)), rfl, ⟨by have := HI.out; have := HLT.out; omega⟩, HCN, ⟨⟨HL1.out.1, HR.out⟩⟩, HO3, HM⟩
    · have hps : ps = qs := by
        have h1 := HL1.out.1
        rw [hnil, ← HQ.out.1] at h1
        cases o with
        | false =>
          rw [if_neg (by decide), List.append_nil] at h1
          exact flat_inj _ _ h1.symm
        | true =>
          rw [if_pos rfl] at h1
          have h2 := congrArg List.length h1
          rw [List.length_append, flat_len, flat_len] at h2
          simp only [List.length_cons, List.length_nil] at h2
          omega
      have HPS := Aside0.mk hps
      clear hps
      rcases hc with hq | hq
      all_goals
        rw [hq] at hx2
        go_wp2_with fail
        refine wp_label ?_
        have x5 := (blk_cell HM.out.1 5).trans (rfl : _ = some (Value.slice none 0 0))
        go_wp2_with fail
        have r0 := (blk_cell HM.out.2.1 0).trans (rfl : _ = some (Value.slice none 0 0))
        have r1 := (blk_cell HM.out.2.1 1).trans (rfl : _ = some (Value.slice none 0 0))
        have r2 := (blk_cell HM.out.2.1 2).trans (rfl : _ = some (Value.map (some B)))
        have r3 := (blk_cell HM.out.2.1 3).trans (rfl : _ = some (Value.map none))
        have r4 := (blk_cell HM.out.2.1 4).trans (rfl : _ = some (Value.int .u8 123))
        rw [Exit.noGoto_ret]
        refine bodyPost_ret (v := .agg #[.slice none 0 0, .slice none 0 0, .map (some B), .map none, .int .u8 123]) (by simp [results, Tryz.results45, go_sem, r0, r1, r2, r3, r4]) rfl ?_
        exact ⟨B, D, rfl, by rw [← HPS.out]; exact HM.out.2.2.2.2.1, by rw [← HPS.out]; exact HM.out.2.2.2.2.2.1, by rw [HB.out.1]; exact HM.out.2.2.2.2.2.2.1⟩
    · have HV := Aside0.mk hv
      have HR := Aside0.mk hr
      have HLL : Aside0 (flat qs = flat ps ++ (if o = true then K :: T :: l else T :: l)) := ⟨by rw [HQ.out.1, HL1.out.1, hl]⟩
      have HX : Aside0 (Boxes tb rb vb kb B) := ⟨HB.out.2⟩
      have hb0 : bt (u.extract i.toNat u.size) 0 = bt u i := by rw [tail_bt p1 (of_eq_true q2) 0 (Int.le_refl _), Int.add_zero]
      have hts := tail_size p1 (of_eq_true q2)
      have hn1 := hv.2.1
      have hn2 := hv.2.2.1
      have HN : Aside0 (1 ≤ n ∧ i + n ≤ (u.size : Int)) := ⟨by omega⟩
      have HTS := Aside0.mk (show ((u.extract i.toNat u.size).size : Int) ≤ 65536 by have := HS.out; omega)
      have hf := tval_first hv
      rw [hb0] at hf
      have g1 : decide (bt u i ≤ 32) = false := decide_eq_false (by omega)
      have g2 : (bt u i == 93) = false := beq_eq_false_iff_ne.mpr hf.2.1
      have g3 : (bt u i == 125) = false := beq_eq_false_iff_ne.mpr hf.2.2
      have HB0 := Aside0.mk hb0
      clear hv hr hl hn1 hn2 hts hf hb0
      go_upto_block 6 with (fail)
      go_cut [8] from 80 to 249 (fun x8 wc => ∃ (b2 : ByteArray) (c2 : Nat), x8 = .int .i64 i ∧ Aside0 (T.kind = 3 → T.pairs = true → b2 = T.str) ∧ Aside0 (MMem w wc tb rb vb kb B u b c d D ps #[.int .i64 T.kind, .string T.raw, .string b2, .float .f64 c2, .int .i64 d1, .slice none 0 0] #[.int .i64 k3, .string a3, .string b3, .float .f64 c3, .int .i64 d3, .slice none 0 0]))
      case first => as_aux_lemma =>
        have hc := HM.out.2.2.1
        have t0 := (blk_cell hc 0).trans (rfl : _ = some (Value.int .i64 k1))
        have t1 := (blk_cell hc 1).trans (rfl : _ = some (Value.string a1))
        have t2 := (blk_cell hc 2).trans (rfl : _ = some (Value.string b1))
        have t3 := (blk_cell hc 3).trans (rfl : _ = some (Value.float .f64 c1))
        have f0 := blk_frozen hc 0
        have f1 := blk_frozen hc 1
        have f2 := blk_frozen hc 2
        have f3 := blk_frozen hc 3
        clear hc g1 g2 g3
        have htr := HV.out.1
        rcases HV.out.2.2.2 with ⟨hk, hq, l', hR, hstr⟩ | ⟨hk, hq, hsq⟩ | ⟨hk, hq, hN, hgo, hst⟩ | ⟨hw, hgo, hst⟩
        · have HTV2 := Aside0.mk (fun W => Ts.tostr_walk (u.extract i.toNat u.size) (by have := HTS.out; omega) hq hR W)
          have HST := Aside0.mk hstr
          have HTR := Aside0.mk htr
          have HKD := Aside0.mk hk
          rw [HB0.out] at hq
          rw [hq] at hx2
          clear hstr htr hR
          go_wp2_with fail
          refine (HTV2.out _).mono ?_
          rintro e w5 ⟨o, rfl, ho, hbe⟩
          have HO := Aside0.mk ho
          have HM5 := Aside0.mk ((HM.out.set HX.out 0 (.int .i64 3)).below HX.out hbe)
          clear ho hbe t0 t1 t2 t3 f0 f1 f2 f3 hk
          have hc := HM5.out.2.2.1
          have t1 := (blk_cell hc 1).trans (rfl : _ = some (Value.string a1))
          have t2 := (blk_cell hc 2).trans (rfl : _ = some (Value.string b1))
          have t3 := (blk_cell hc 3).trans (rfl : _ = some (Value.float .f64 c1))
          have f1 := blk_frozen hc 1
          have f2 := blk_frozen hc 2
          have f3 := blk_frozen hc 3
          clear hc
          go_wp2_with fail
          go_meet
          case rel =>
            refine ⟨o, 0, rfl, ⟨fun _ hp => by rw [HST.out]; exact HO.out hp⟩, ⟨?_⟩⟩
            rw [HTR.out, HKD.out]
            simpa using ((HM5.out.set HX.out 1 (.string ((u.extract i.toNat u.size).extract 0 n.toNat))).set HX.out 2 (.string o)).set HX.out 3 (.float .f64 0)
        · obtain ⟨m, hm⟩ := hsq
          have HSQ := Aside0.mk hm
          have HTR := Aside0.mk htr
          have HKD := Aside0.mk hk
          rw [HB0.out] at hq
          have HQ := Aside0.mk hq
          clear hm htr hk hq
          rcases HQ.out with hq | hq
          all_goals
            clear HQ
            rw [hq] at hx2
            go_wp2_with fail
            refine (gjson_squash.calls m _ _ _ HSQ.out).mono ?_
            rintro e w5 ⟨rfl, hd⟩
            have hbe : Below (wr.setCell ⟨vb, 0, none⟩ (.int .i64 5)).heap.size (wr.setCell ⟨vb, 0, none⟩ (.int .i64 5)) w5 := by
              obtain ⟨⟨nd, rfl⟩⟩ := hd
              exact pw_below_drewN (Below.refl _ _) nd
            have HM5 := Aside0.mk ((HM.out.set HX.out 0 (.int .i64 5)).below HX.out hbe)
            clear hd hbe t0 t1 t2 t3 f0 f1 f2 f3
            have hc := HM5.out.2.2.1
            have t1 := (blk_cell hc 1).trans (rfl : _ = some (Value.string a1))
            have t2 := (blk_cell hc 2).trans (rfl : _ = some (Value.string b1))
            have t3 := (blk_cell hc 3).trans (rfl : _ = some (Value.float .f64 c1))
            have f1 := blk_frozen hc 1
            have f2 := blk_frozen hc 2
            have f3 := blk_frozen hc 3
            clear hc
            go_wp2_with fail
            go_meet
            case rel =>
              refine ⟨⟨#[]⟩, 0, rfl, ⟨fun h => absurd h (by rw [HKD.out]; decide)⟩, ⟨?_⟩⟩
              rw [HTR.out, HKD.out]
              simpa using ((HM5.out.set HX.out 1 (.string ((u.extract i.toNat u.size).extract 0 n.toNat))).set HX.out 2 (.string ⟨#[]⟩)).set HX.out 3 (.float .f64 0)
        · have HTR := Aside0.mk htr
          have HKD := Aside0.mk hk
          have HTN := Aside0.mk (fun (W : World) (hW : Below tb w W) => tonum_walk (u.extract i.toNat u.size) n W HV.out.2.1 HV.out.2.2.1 (by have := HTS.out; omega) hgo hst hN
            ((HTV.out.1.below (by rw [HB.out.1]; exact hW)).mono (by rw [HB.out.1]; have := hW.size; rw [HB.out.1] at this; exact this)) ((HTV.out.2.below (by rw [HB.out.1]; exact hW)).mono (by rw [HB.out.1]; have := hW.size; rw [HB.out.1] at this; exact this)))
          rw [HB0.out] at hq
          have HQ := Aside0.mk hq
          clear hN hgo hst htr hk hq
          rcases HQ.out with hq | ⟨hq1, hq2⟩
          · clear HQ
            rw [hq] at hx2
            go_wp2_with fail
            refine (HTN.out _ (HM.out.set HX.out 0 (.int .i64 2)).2.2.2.2.2.2.1).mono ?_
            rintro e w5 ⟨x, rfl, _, hbe⟩
            have HM5 := Aside0.mk ((HM.out.set HX.out 0 (.int .i64 2)).below HX.out hbe)
            clear hbe t0 t1 t2 t3 f0 f1 f2 f3
            have hc := HM5.out.2.2.1
            have t1 := (blk_cell hc 1).trans (rfl : _ = some (Value.string a1))
            have t2 := (blk_cell hc 2).trans (rfl : _ = some (Value.string b1))
            have t3 := (blk_cell hc 3).trans (rfl : _ = some (Value.float .f64 c1))
            have f1 := blk_frozen hc 1
            have f2 := blk_frozen hc 2
            have f3 := blk_frozen hc 3
            clear hc
            go_wp2_with fail
            go_meet
            case rel =>
              refine ⟨⟨#[]⟩, x, rfl, ⟨fun h => absurd h (by rw [HKD.out]; decide)⟩, ⟨?_⟩⟩
              rw [HTR.out, HKD.out]
              simpa using ((HM5.out.set HX.out 1 (.string ((u.extract i.toNat u.size).extract 0 n.toNat))).set HX.out 3 (.float .f64 x)).set HX.out 2 (.string ⟨#[]⟩)
          · have e1 : (bt u i == 123) = false := beq_eq_false_iff_ne.mpr (by omega)
            have e2 : (bt u i == 91) = false := beq_eq_false_iff_ne.mpr (by omega)
            have e3 : (bt u i == 110) = false := beq_eq_false_iff_ne.mpr (by omega)
            have e4 : (bt u i == 116) = false := beq_eq_false_iff_ne.mpr (by omega)
            have e5 : (bt u i == 102) = false := beq_eq_false_iff_ne.mpr (by omega)
            have e6 : (bt u i == 34) = false := beq_eq_false_iff_ne.mpr (by omega)
            have e7 : decide (48 ≤ bt u i) = true := decide_eq_true hq1
            have e8 : decide (bt u i ≤ 57) = true := decide_eq_true hq2
            clear HQ hq1 hq2
            go_wp2_with fail
            refine (HTN.out _ (HM.out.set HX.out 0 (.int .i64 2)).2.2.2.2.2.2.1).mono ?_
            rintro e w5 ⟨x, rfl, _, hbe⟩
            have HM5 := Aside0.mk ((HM.out.set HX.out 0 (.int .i64 2)).below HX.out hbe)
            clear hbe t0 t1 t2 t3 f0 f1 f2 f3
            have hc := HM5.out.2.2.1
            have t1 := (blk_cell hc 1).trans (rfl : _ = some (Value.string a1))
            have t2 := (blk_cell hc 2).trans (rfl : _ = some (Value.string b1))
            have t3 := (blk_cell hc 3).trans (rfl : _ = some (Value.float .f64 c1))
            have f1 := blk_frozen hc 1
            have f2 := blk_frozen hc 2
            have f3 := blk_frozen hc 3
            clear hc
            go_wp2_with fail
            go_meet
            case rel =>
              refine ⟨⟨#[]⟩, x, rfl, ⟨fun h => absurd h (by rw [HKD.out]; decide)⟩, ⟨?_⟩⟩
              rw [HTR.out, HKD.out]
              simpa using ((HM5.out.set HX.out 1 (.string ((u.extract i.toNat u.size).extract 0 n.toNat))).set HX.out 3 (.float .f64 x)).set HX.out 2 (.string ⟨#[]⟩)
        · have HTR := Aside0.mk htr
          have HTN := Aside0.mk (fun (W : World) => tolit_walk (u.extract i.toNat u.size) n W HV.out.2.1 HV.out.2.2.1 (by have := HTS.out; omega) hgo hst)
          rw [HB0.out] at hw
          have HQ := Aside0.mk hw
          clear hgo hst htr hw
          rcases HQ.out with ⟨hk, hq⟩ | ⟨hk, hq⟩ | ⟨hk, hq⟩
          all_goals
            clear HQ
            have HKD := Aside0.mk hk
            clear hk
            rw [hq] at hx2
            go_wp2_with fail
            refine (HTN.out _).mono ?_
            rintro e w5 ⟨rfl, rfl⟩
            go_wp2_with fail
            go_meet
            case rel =>
              refine ⟨⟨#[]⟩, 0, rfl, ⟨fun h => absurd h (by rw [HKD.out]; decide)⟩, ⟨?_⟩⟩
              rw [HTR.out, HKD.out]
              first
                | simpa using (((HM.out.set HX.out 0 (.int .i64 4)).set HX.out 1 (.string ((u.extract i.toNat u.size).extract 0 n.toNat))).set HX.out 2 (.string ⟨#[]⟩)).set HX.out 3 (.float .f64 0)
                | simpa using (((HM.out.set HX.out 0 (.int .i64 1)).set HX.out 1 (.string ((u.extract i.toNat u.size).extract 0 n.toNat))).set HX.out 2 (.string ⟨#[]⟩)).set HX.out 3 (.float .f64 0)
                | simpa using (((HM.out.set HX.out 0 (.int .i64 0)).set HX.out 1 (.string ((u.extract i.toNat u.size).extract 0 n.toNat))).set HX.out 2 (.string ⟨#[]⟩)).set HX.out 3 (.float .f64 0)
      case rest =>
        clear HM
        obtain ⟨b2, c2, rfl, HSS, HM2⟩ := hcut
        have hrs : (T.raw.size : Int) = n := by rw [HV.out.1, ByteArray.size_extract]; have := HV.out.2.1; have := HV.out.2.2.1; omega
        have n1 : 1 ≤ n := HN.out.1
        have HRZ : Aside0 (0 < T.raw.size) := ⟨by omega⟩
        have n4 : n ≤ 70000 := by have := HN.out; have := HS.out; omega
        have hc := HM2.out.2.2.1
        have t1 := (blk_cell hc 1).trans (rfl : _ = some (Value.string T.raw))
        have t4 := (blk_cell hc 4).trans (rfl : _ = some (Value.int .i64 d1))
        have f4 := blk_frozen hc 4
        have y4 := (blk_cell HM2.out.1 4).trans (rfl : _ = some (Value.int .i64 d))
        clear hc g1 g2 g3
        go_upto_region 58 with (fail)
        obtain ⟨ix, hix⟩ : ∃ x, wrap64 (i + d) = x := ⟨_, rfl⟩
        rw [hix]
        clear hix
        obtain ⟨W3, hW3⟩ : ∃ W, wc.setCell { block := vb, off := 4 } (Value.int IntKind.i64 ix) = W := ⟨_, rfl⟩
        rw [hW3]
        have HM3 : Aside0 (MMem w W3 tb rb vb kb B u b c d D ps #[.int .i64 T.kind, .string T.raw, .string b2, .float .f64 c2, .int .i64 ix, .slice none 0 0] #[.int .i64 k3, .string a3, .string b3, .float .f64 c3, .int .i64 d3, .slice none 0 0]) := ⟨by rw [← hW3]; simpa using HM2.out.set HX.out 4 (.int .i64 ix)⟩
        clear hW3 HM2 t1 t4 f4 y4 hrs
        have hc := HM3.out.2.2.1
        have t0 := (blk_cell hc 0).trans (rfl : _ = some (Value.int .i64 T.kind))
        have t1 := (blk_cell hc 1).trans (rfl : _ = some (Value.string T.raw))
        have t2 := (blk_cell hc 2).trans (rfl : _ = some (Value.string b2))
        have t3 := (blk_cell hc 3).trans (rfl : _ = some (Value.float .f64 c2))
        have t4 := (blk_cell hc 4).trans (rfl : _ = some (Value.int .i64 ix))
        have t5 := (blk_cell hc 5).trans (rfl : _ = some (Value.slice none 0 0))
        have y4 := (blk_cell HM3.out.2.1 4).trans (rfl : _ = some (Value.int .u8 123))
        have HPL : Aside0 (ps.length ≤ 65536) := ⟨by have h1 := HLEN.out; rw [← HQ.out.1, HLL.out, List.length_append, flat_len] at h1; omega⟩
        cases o with
        | false =>
          have hll := HLL.out
          rw [if_neg (by decide)] at hll
          obtain ⟨T2, rs, hq2, _⟩ := flat_at ps qs T l hll.symm
          have hmem : (T, T2) ∈ qs := by rw [hq2]; simp
          have hb2 : b2 = T.str := HSS.out (HQ.out.2.1 _ hmem) (HQ.out.2.2.1 _ hmem)
          have HK2 := Aside0.mk (And.intro hb2 (key_size HV.out HTS.out (HQ.out.2.1 _ hmem)))
          have hk := HM3.out.2.2.2.1
          have s0 := (blk_cell hk 0).trans (rfl : _ = some (Value.int .i64 k3))
          have s1 := (blk_cell hk 1).trans (rfl : _ = some (Value.string a3))
          have s2 := (blk_cell hk 2).trans (rfl : _ = some (Value.string b3))
          have s3 := (blk_cell hk 3).trans (rfl : _ = some (Value.float .f64 c3))
          have s4 := (blk_cell hk 4).trans (rfl : _ = some (Value.int .i64 d3))
          have s5 := (blk_cell hk 5).trans (rfl : _ = some (Value.slice none 0 0))
          have z0 := blk_frozen hk 0
          have z1 := blk_frozen hk 1
          have z2 := blk_frozen hk 2
          have z3 := blk_frozen hk 3
          have z4 := blk_frozen hk 4
          have z5 := blk_frozen hk 5
          have m0 : (0 : Int) ≤ cn := by have := HCN.out; rw [if_neg (by decide)] at this; omega
          have m1 : cn ≤ 200000 := by have := HCN.out; rw [if_neg (by decide)] at this; have := HPL.out; omega
          have m2 : Int.tmod cn 2 = 0 := by rw [Int.tmod_eq_emod_of_nonneg m0]; have := HCN.out; rw [if_neg (by decide)] at this; omega
          have HCN2 : Aside0 (cn = 2 * (ps.length : Int)) := ⟨by have := HCN.out; rw [if_neg (by decide)] at this; omega⟩
          have HLL2 : Aside0 (L = flat ps ++ T :: l) := ⟨by rw [← HQ.out.1]; exact hll⟩
          clear hll hq2 hmem hb2 hk hc HCN HLL HO3
          go_wp2_with fail
          go_roundg ((u.size : Int) - (i + n)).toNat
          case measure => have := HI.out; have := HN.out; omega
          case rel =>
            refine ⟨i + n, cn + 1, ps, true, T, l, D, T.kind, T.raw, b2, c2, ix, T.kind, T.raw, b2, c2, ix, (by first | rfl | (congr 1; omega)), (by first | rfl | (congr 1; omega)), ⟨by have := HI.out; have := HN.out; omega⟩, ⟨by rw [if_pos rfl]; have := HCN2.out; omega⟩, ⟨by rw [if_pos rfl]; exact HLL2.out, HR.out⟩, ⟨fun _ => HK2.out⟩, ⟨?_⟩⟩
            simpa using (((((HM3.out.setK HX.out 0 (.int .i64 T.kind)).setK HX.out 1 (.string T.raw)).setK HX.out 2 (.string b2)).setK HX.out 3 (.float .f64 c2)).setK HX.out 4 (.int .i64 ix)).setK HX.out 5 (.slice none 0 0)
        | true =>
          have hll := HLL.out
          rw [if_pos rfl] at hll
          obtain ⟨T2, rs, hq2, hl2⟩ := flat_at ps qs K (T :: l) hll.symm
          simp only [List.cons.injEq] at hl2
          obtain ⟨rfl, hl2⟩ := hl2
          have hno : K.str ∉ keysOf ps := by
            have h1 := HQ.out.2.2.2
            rw [hq2] at h1
            simp only [keysOf, List.map_append, List.map_cons] at h1
            rw [List.nodup_append] at h1
            exact fun hm => h1.2.2 _ hm _ (List.mem_cons_self) rfl
          obtain ⟨hb3, hks⟩ := HO3.out rfl
          subst hb3
          have hlook := look_new HM3.out.2.2.2.2.1 HM3.out.2.2.2.2.2.1 hks hno
          have HKS := Aside0.mk hks
          have m0 : (0 : Int) ≤ cn := by have := HCN.out; rw [if_pos rfl] at this; omega
          have m1 : cn ≤ 200000 := by have := HCN.out; rw [if_pos rfl] at this; have := HPL.out; omega
          have m2 : Int.tmod cn 2 = 1 := by rw [Int.tmod_eq_emod_of_nonneg m0]; have := HCN.out; rw [if_pos rfl] at this; omega
          have HCN2 : Aside0 (cn = 2 * (ps.length : Int) + 1) := ⟨by have := HCN.out; rw [if_pos rfl] at this; omega⟩
          have HLL2 : Aside0 (L = flat (ps ++ [(K, T)]) ++ l) := ⟨by rw [← HQ.out.1, flat_snoc, hll]; simp⟩
          have y2 := (blk_cell HM3.out.2.1 2).trans (rfl : _ = some (Value.map (some B)))
          have s2 := (blk_cell HM3.out.2.2.2.1 2).trans (rfl : _ = some (Value.string K.str))
          have al : ∀ {g j : Nat} {v : Value}, W3.cell? ⟨g, j, none⟩ = some v → ∀ o, (W3.alloc o).cell? ⟨g, j, none⟩ = some v := fun hcell o => (Below.cell (Below.alloc (Below.refl W3.heap.size W3) (Nat.le_refl _) o) (lt_of_cell hcell)).trans hcell
          have ay2 := al y2
          have as2 := al s2
          have at0 := al t0
          have at1 := al t1
          have at2 := al t2
          have at3 := al t3
          have at4 := al t4
          have at5 := al t5
          have HMA := Aside0.mk (MMem.below HX.out HM3.out (Below.alloc (Below.refl W3.heap.size W3) (Nat.le_refl _) (.cells #[.int .i64 0, .string ⟨#[]⟩, .string ⟨#[]⟩, .float .f64 0, .int .i64 0, .slice none 0 0] 50)))
          have HRV : Aside0 (RVv T (.agg #[.int .i64 T.kind, .string T.raw, .string b2, .float .f64 c2, .int .i64 ix, .slice none 0 0])) := ⟨⟨b2, c2, ix, rfl, .inr HRZ.out⟩⟩
          clear hll hq2 hl2 hno hks hc al HCN HLL HO3
          go_wp2_with (at_mapUpdate; refine wpList_mapUpdate_own _ rfl _ _ _ 54 rfl 9 50 law Tryz.underlying54 RH B ps.length D rfl HMA.out.2.2.2.2.1 (by have := HPL.out; unfold maxLen; omega) _ _ (lit K.str) rfl rfl (key_of HKS.out) (.held (.agg #[.int .i64 T.kind, .string T.raw, .string b2, .float .f64 c2, .int .i64 ix, .slice none 0 0])) [] rfl ?_; intro w6 hown6 hg6; have HM6 := Aside0.mk (MMem.store (k := K) HX.out HMA.out HRV.out hown6 hg6); clear hown6 hg6)
          go_roundg ((u.size : Int) - (i + n)).toNat
          case measure => have := HI.out; have := HN.out; omega
          case rel => exact ⟨i + n, cn + 1, ps ++ [(K, T)], false, K, l, _, T.kind, T.raw, b2, c2, ix, k3, a3, K.str, c3, d3, (by first | rfl | (congr 1; omega)), (by first | rfl | (congr 1; omega)), ⟨by have := HI.out; have := HN.out; omega⟩, ⟨by rw [if_neg (by decide), List.length_append, List.length_singleton]; have := HCN2.out; omega⟩, ⟨by rw [if_neg (by decide)]; exact HLL2.out, HR.out⟩, ⟨fun h => absurd h (by decide)⟩, HM6⟩
end Go.Proofs.YtldfejbmdonaoaaGreatDoor.Mm