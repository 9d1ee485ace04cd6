/- Joined by a program of mine from texts of this claim: Am. -/
import Derived.Test.YtldfejbmdonaoaaGreatDoorZA44
import Derived.Test.YtldfejbmdonaoaaGreatDoorZA34
import Derived.Deep.CutBlock
import Derived.Deep.DeepCutAuto
import Derived.Deep.LoopGhost
import Derived.LoopN
import Derived.Scope
import Derived.Great.BuildSlice
namespace Go.Proofs.YtldfejbmdonaoaaGreatDoor.Am
open Go.RowKit YtldfejbmdonaoaaGreatDoorW.PrintWords YtldfejbmdonaoaaGreatDoorW.PrintLast YtldfejbmdonaoaaGreatDoorW.PrintMore Tw Tp Te At Pz Nx Gp Gv Ak Al PFnAppendParse
set_option linter.unusedVariables false
set_option linter.unusedSimpArgs false
theorem info_res : (Tryz.prog.info? 50).map (fun i => (i.zero, i.size, i.bytes)) = some (some (.agg #[.int .i64 0, .string ⟨#[]⟩, .string ⟨#[]⟩, .float .f64 0, .int .i64 0, .slice none 0 0]), 6, 80) := by kernel_rfl
theorem build_one (k : Int) (a b : ByteArray) (c : Nat) (d : Int) (A : Option Addr) (n m : Nat) (W : World) :
    (Instr.buildSlice 58 1 #[(0, .agg #[.int .i64 k, .string a, .string b, .float .f64 c, .int .i64 d, .slice A n m])]).run Tryz.prog W = .ok (.slice (some ⟨W.heap.size, 0, none⟩) 1 1) (W.alloc (.cells #[.int .i64 k, .string a, .string b, .float .f64 c, .int .i64 d, .slice A n m] 50)) := by
  obtain ⟨i0, hi0, hz0, hz1, hz2⟩ := info_parts info_res
  exact run_buildSlice W 58 50 1 _ _ i0 _ Tryz.underlying58 hi0 hz0 (by rw [hz1]; decide) (by rw [hz1]; decide) (by rw [hz1]; kernel_rfl)
theorem own_mono {w : World} {B B' : Nat} {e : TypeId} {size n : Nat} {v : Value} {xs : List Value} (h : w.ownsRow B e size v n xs) (hb : B' ≤ B) : w.ownsRow B' e size v n xs := by
  refine ⟨h.1, ?_⟩
  rcases h.2 with hn | ⟨g, cap, cur, e1, e2, rest⟩
  · exact .inl hn
  · exact .inr ⟨g, cap, cur, e1, Nat.le_trans hb e2, rest⟩
theorem resrow_mono {R : JT → List Value → Prop} {e : TypeId} {w : World} {B B' : Nat} {av : Value} {L : List JT} (h : RowOf R e w B av L) (hb : B' ≤ B) : RowOf R e w B' av L := by
  obtain ⟨xs, h1, h2⟩ := h
  exact ⟨xs, h1, own_mono h2 hb⟩
theorem ttoks_lt {u : ByteArray} {p : Int} {l : List JT} (h : TToks u p l) : p < (u.size : Int) := by
  cases h with
  | skip hlt => exact hlt
  | stop hlt => exact hlt
  | @val p n T l hv hr =>
    have h1 := hv.2.1
    have h2 := hv.2.2.1
    rw [ByteArray.size_extract] at h2
    omega
theorem ttoks_cases {u : ByteArray} {p : Int} {L : List JT} (h : TToks u p L) : ((bt u p ≤ 32 ∨ bt u p = 44 ∨ bt u p = 58) ∧ TToks u (p + 1) L) ∨ ((bt u p = 93 ∨ bt u p = 125) ∧ L = []) ∨ (∃ n T l, L = T :: l ∧ TVal (u.extract p.toNat u.size) n T ∧ TToks u (p + n) l) := by
  cases h with
  | skip hlt h hr => exact .inl ⟨h, hr⟩
  | stop hlt h => exact .inr (.inl ⟨h, rfl⟩)
  | val hv hr => exact .inr (.inr ⟨_, _, _, rfl, hv, hr⟩)
theorem five (w : World) (o1 o2 o3 o4 : Obj) :
    (((((w.alloc o1).alloc o2).alloc o3).alloc o4).alloc (.cells #[] 50)).heap[w.heap.size]? = some o1 ∧ (((((w.alloc o1).alloc o2).alloc o3).alloc o4).alloc (.cells #[] 50)).heap[w.heap.size + 1]? = some o2 ∧ (((((w.alloc o1).alloc o2).alloc o3).alloc o4).alloc (.cells #[] 50)).heap[w.heap.size + 1 + 1]? = some o3 ∧
    (((((w.alloc o1).alloc o2).alloc o3).alloc o4).alloc (.cells #[] 50)).heap[w.heap.size + 1 + 1 + 1]? = some o4 ∧ Below w.heap.size w (((((w.alloc o1).alloc o2).alloc o3).alloc o4).alloc (.cells #[] 50)) ∧
    (((((w.alloc o1).alloc o2).alloc o3).alloc o4).alloc (.cells #[] 50)).ownsRow (w.heap.size + 1 + 1 + 1 + 1) 50 6 (.slice (some ⟨w.heap.size + 1 + 1 + 1 + 1, 0, none⟩) 0 0) 0 [] := by
  have s1 : (w.alloc o1).heap.size = w.heap.size + 1 := by simp
  have s2 : ((w.alloc o1).alloc o2).heap.size = w.heap.size + 1 + 1 := by simp
  have s3 : (((w.alloc o1).alloc o2).alloc o3).heap.size = w.heap.size + 1 + 1 + 1 := by simp
  have s4 : ((((w.alloc o1).alloc o2).alloc o3).alloc o4).heap.size = w.heap.size + 1 + 1 + 1 + 1 := by simp
  have h1 := heap_alloc_new w o1
  have h2 := heap_alloc_new (w.alloc o1) o2
  have h3 := heap_alloc_new ((w.alloc o1).alloc o2) o3
  have h4 := heap_alloc_new (((w.alloc o1).alloc o2).alloc o3) o4
  have h5 := World.ownsRow_made (base := w.heap.size + 1 + 1 + 1 + 1) (e := 50) (size := 6) ((((w.alloc o1).alloc o2).alloc o3).alloc o4) #[] 0 (by omega) (by decide) (by simp)
  rw [s1] at h2
  rw [s2] at h3
  rw [s3] at h4
  rw [s4] at h5
  exact ⟨blk_alloc (blk_alloc (blk_alloc (blk_alloc h1 o2) o3) o4) _, blk_alloc (blk_alloc (blk_alloc h2 o3) o4) _, blk_alloc (blk_alloc h3 o4) _, blk_alloc h4 _, ((((((Below.refl _ _).alloc (Nat.le_refl _) o1).alloc (by omega) o2).alloc (by omega) o3).alloc (by omega) o4).alloc (by omega) _), h5⟩
def AMem (w wr : World) (tb rb vb B : Nat) (u b : ByteArray) (c : Nat) (d : Int) (av : Value) (L0 : List JT) (V : Array Value) : Prop :=
  wr.heap[tb]? = some (.cells #[.int .i64 5, .string u, .string b, .float .f64 c, .int .i64 d, .slice none 0 0] 50 (0, 0)) ∧
  wr.heap[rb]? = some (.cells #[av, .slice none 0 0, .map none, .map none, .int .u8 91] 75 (0, 0)) ∧
  wr.heap[vb]? = some (.cells V 50 (0, 0)) ∧
  ResRow wr B av L0 ∧ Below tb w wr ∧ B ≤ wr.heap.size
def Boxes (tb rb vb kb B : Nat) : Prop := tb + 1 = rb ∧ rb + 1 = vb ∧ vb + 1 = kb ∧ kb + 1 = B
theorem resrow_keep {R : JT → List Value → Prop} {e : TypeId} {w w' : World} {B : Nat} {av : Value} {L : List JT} (h : RowOf R e w B av L) (hk : ∀ q, B ≤ q → q < w.heap.size → w'.heap[q]? = w.heap[q]?) : RowOf R e w' B av L := by
  obtain ⟨xs, h1, h2⟩ := h
  exact ⟨xs, h1, own_keep h2 fun q hq => hk q (own_base h2 q hq) (own_lt h2 q hq)⟩
section
variable {w wr : World} {tb rb vb kb B : Nat} {u b : ByteArray} {c : Nat} {d : Int} {av : Value} {L0 : List JT} {V : Array Value} (hx : Boxes tb rb vb kb B)
include hx
theorem AMem.set (h : AMem w wr tb rb vb B u b c d av L0 V) (j : Nat) (x : Value) : AMem w (wr.setCell ⟨vb, j, none⟩ x) tb rb vb B u b c d av L0 (V.setIfInBounds j x) := by
  obtain ⟨h1, h2, h3, h4, h5, h6⟩ := h
  obtain ⟨x1, x2, x3, x4⟩ := hx
  exact ⟨blk_far h1 (by show tb ≠ vb; omega) _, blk_far h2 (by show rb ≠ vb; omega) _, blk_set h3 j x, resrow_keep h4 fun q hq _ => Below.heap_setCell _ _ _ _ (by show q ≠ vb; omega), h5.setCell (by show tb ≤ vb; omega) _, by simpa [World.setCell] using h6⟩
theorem AMem.below {w5 : World} (h : AMem w wr tb rb vb B u b c d av L0 V) (hb : Below wr.heap.size wr w5) : AMem w w5 tb rb vb B u b c d av L0 V := by
  obtain ⟨h1, h2, h3, h4, h5, h6⟩ := h
  obtain ⟨x1, x2, x3, x4⟩ := hx
  have := blk_lt h1
  exact ⟨blk_below h1 hb, blk_below h2 hb, blk_below h3 hb, resrow_keep h4 fun q _ hq => hb.block q hq, below_then h5 (by omega) hb, Nat.le_trans h6 hb.size⟩
end
theorem AMem.append {w W3 w4 : World} {tb rb vb kb B : Nat} {u b : ByteArray} {c : Nat} {d : Int} {av v1 : Value} {L0 : List JT} {V : Array Value} {T : JT} {xs ys : List Value} (hx : Boxes tb rb vb kb B) (h : AMem w W3 tb rb vb B u b c d av L0 V) (hr : Al.Rows RV L0 xs) (hown : W3.ownsRow B 50 6 av L0.length xs) (hv : RV T ys)
    (ho1 : w4.ownsRow B 50 6 v1 (L0.length + 1) (xs ++ ys)) (hg : W3.grownBy w4 av.ownBlock) : AMem w (w4.setCell ⟨rb, 0, none⟩ v1) tb rb vb B u b c d v1 (L0 ++ [T]) V := by
  obtain ⟨h1, h2, h3, h4, h5, h6⟩ := h
  obtain ⟨x1, x2, x3, x4⟩ := hx
  have no : ∀ g, g < B → some g ≠ av.ownBlock := fun g hg e => by
    have := own_base hown g e.symm
    omega
  have hlt := blk_lt h1
  refine ⟨blk_far (blk_grown h1 hg (no tb (by omega))) (by show tb ≠ rb; omega) _, ?_, blk_far (blk_grown h3 hg (no vb (by omega))) (by show vb ≠ rb; omega) _, ?_, ?_, ?_⟩
  · have := blk_set (blk_grown h2 hg (no rb (by omega))) 0 v1
    simpa using this
  · refine ⟨xs ++ ys, .snoc hr hv, ?_⟩
    rw [List.length_append, List.length_singleton]
    exact own_keep ho1 fun q hq => Below.heap_setCell _ _ _ _ (by have := own_base ho1 q hq; show q ≠ rb; omega)
  · exact (h5.grown hg (by omega) (fun q hq => by have := own_base hown q hq; omega)).setCell (by show tb ≤ rb; omega) _
  · have := hg.size
    simp only [World.setCell, Array.size_modify]
    omega
theorem tval_first {t : ByteArray} {n : Int} {T : JT} (h : TVal t n T) : 33 ≤ bt t 0 ∧ bt t 0 ≠ 93 ∧ bt t 0 ≠ 125 := by
  rcases h.2.2.2 with ⟨_, h, _⟩ | ⟨_, h, _⟩ | ⟨_, h, _⟩ | ⟨h, _⟩ <;> omega
set_option maxRecDepth 100000 in
set_option maxHeartbeats 8000000 in
theorem array_walk (u : ByteArray) (hs : (u.size : Int) ≤ 65536) (h0 : bt u 0 = 91) (L : List JT) (hL : TToks u 1 L) (b : ByteArray) (c : Nat) (d : Int) (w : World) (hT : Tabs w w.heap.size) (hV : ErrVars w w.heap.size) :
    Calls Tryz.prog 45 #[.agg #[.int .i64 5, .string u, .string b, .float .f64 c, .int .i64 d, .slice none 0 0], .int .u8 91, .bool false] w fun e w' => ∃ av, e = .returned (.agg #[av, .slice none 0 0, .map none, .map none, .int .u8 91]) ∧ ResRow w' w.heap.size av L ∧ Below w.heap.size w w' := by
  have HS := Aside0.mk hs
  have HL := Aside0.mk hL
  have HLEN : Aside0 (L.length ≤ 65536) := ⟨by have := ttoks_len hL; omega⟩
  have HTV := Aside0.mk (And.intro hT hV)
  have hz : 0 < (u.size : Int) := lt_of_bt (by omega)
  have hzn : 0 < u.size := by omega
  have hzd : decide (0 < u.size) = true := decide_eq_true hzn
  have hx0 := Bt.bt_at0 u
  rw [h0] at hx0
  obtain ⟨i50, hi0, hz0, hz1, hz2⟩ := info_parts info_res
  have hmk : ∀ W : World, (Instr.makeSlice 58 (.int .i64 0) (.int .i64 0)).run Tryz.prog W = .ok (.slice (some ⟨W.heap.size, 0, none⟩) 0 0) (W.alloc (.cells #[] 50)) := fun W => by
    have h := run_make (P := Tryz.prog) W 58 50 i50 (.agg #[.int .i64 0, .string ⟨#[]⟩, .string ⟨#[]⟩, .float .f64 0, .int .i64 0, .slice none 0 0]) Tryz.underlying58 hi0 hz0 .i64 .i64 0 0 (by omega) (by omega) (by rw [hz2]; omega) (by omega)
    refine h.trans ?_
    congr 3
    exact Array.eq_empty_of_size_eq_zero (by simp [madeCells])
  clear hs hL hT hV h0 hi0 hz0 hz1 hz2
  go_enter Tryz.func45, Tryz.ntmps45
  go_wp2_with fail
  refine wp_scope_straight ?_
  go_wp2_with fail
  refine wp_loop_rounds 1 ?_
  rw [rounds_succ]
  go_wp2_with fail
  obtain ⟨f1, f2, f3, f4, f5, hown⟩ := five w (Obj.cells #[Value.int IntKind.i64 5, Value.string u, Value.string b, Value.float FloatKind.f64 c, Value.int IntKind.i64 d, Value.slice none 0 0] 50) (Obj.cells #[Value.slice (some { block := w.heap.size + 1 + 1 + 1 + 1, off := 0 }) 0 0, Value.slice none 0 0, Value.map none, Value.map none, Value.int IntKind.u8 91] 75) (Obj.cells #[Value.int IntKind.i64 0, Value.string { data := #[] }, Value.string { data := #[] }, Value.float FloatKind.f64 0, Value.int IntKind.i64 0, Value.slice none 0 0] 50) (Obj.cells #[Value.int IntKind.i64 0, Value.string { data := #[] }, Value.string { data := #[] }, Value.float FloatKind.f64 0, Value.int IntKind.i64 0, Value.slice none 0 0] 50)
  obtain ⟨W0, hW0⟩ : ∃ W0, (((((w.alloc (Obj.cells #[Value.int IntKind.i64 5, Value.string u, Value.string b, Value.float FloatKind.f64 c, Value.int IntKind.i64 d, Value.slice none 0 0] 50)).alloc (Obj.cells #[Value.slice (some { block := w.heap.size + 1 + 1 + 1 + 1, off := 0 }) 0 0, Value.slice none 0 0, Value.map none, Value.map none, Value.int IntKind.u8 91] 75)).alloc (Obj.cells #[Value.int IntKind.i64 0, Value.string { data := #[] }, Value.string { data := #[] }, Value.float FloatKind.f64 0, Value.int IntKind.i64 0, Value.slice none 0 0] 50)).alloc (Obj.cells #[Value.int IntKind.i64 0, Value.string { data := #[] }, Value.string { data := #[] }, Value.float FloatKind.f64 0, Value.int IntKind.i64 0, Value.slice none 0 0] 50)).alloc (Obj.cells #[] 50)) = W0 := ⟨_, rfl⟩
  rw [hW0] at hown f1 f2 f3 f4 f5 ⊢
  obtain ⟨tb, htb⟩ : ∃ x, w.heap.size = x := ⟨_, rfl⟩
  obtain ⟨rb, hrb⟩ : ∃ x, tb + 1 = x := ⟨_, rfl⟩
  obtain ⟨vb, hvb⟩ : ∃ x, rb + 1 = x := ⟨_, rfl⟩
  obtain ⟨kb, hkb⟩ : ∃ x, vb + 1 = x := ⟨_, rfl⟩
  obtain ⟨B, hB⟩ : ∃ x, kb + 1 = x := ⟨_, rfl⟩
  rw [htb, hrb, hvb, hkb, hB] at hown f2
  rw [htb] at f1 f5
  rw [htb, hrb, hvb] at f3
  rw [htb, hrb, hvb, hkb]
  have HM0 : Aside0 (AMem w W0 tb rb vb B u b c d (.slice (some ⟨B, 0, none⟩) 0 0) [] #[.int .i64 0, .string ⟨#[]⟩, .string ⟨#[]⟩, .float .f64 0, .int .i64 0, .slice none 0 0]) := ⟨f1, f2, f3, ⟨[], .nil, hown⟩, f5, by have := own_lt hown B rfl; omega⟩
  have HB := Aside0.mk (show w.heap.size = tb ∧ tb + 1 = rb ∧ rb + 1 = vb ∧ vb + 1 = kb ∧ kb + 1 = B from ⟨htb, hrb, hvb, hkb, hB⟩)
  clear hmk hx0 hz hzn hzd hown f1 f2 f3 f4 f5 hW0 htb hrb hvb hkb hB
  go_loopg [8] u.size (fun kq x8 wr => ∃ (i : Int) (L0 L1 : List JT) (av : Value) (k1 : Int) (a1 b1 : ByteArray) (c1 : Nat) (d1 : Int), x8 = .int .i64 i ∧ Aside0 (1 ≤ i ∧ (kq : Int) ≥ (u.size : Int) - i) ∧ Aside0 (L = L0 ++ L1 ∧ TToks u i L1) ∧ Aside0 (AMem w wr tb rb vb B u b c d av L0 #[.int .i64 k1, .string a1, .string b1, .float .f64 c1, .int .i64 d1, .slice none 0 0]))
  case atStart => exact ⟨1, [], L, _, _, _, _, _, _, rfl, ⟨by omega⟩, ⟨⟨rfl, HL.out⟩⟩, HM0⟩
  case round =>
    clear HM0 HL
    obtain ⟨i, L0, L1, av, k1, a1, b1, c1, d1, rfl, HI, HL1, HM⟩ := hrel
    have hlt := ttoks_lt HL1.out.2
    have p1 : (0 : Int) ≤ i := by have := HI.out; omega
    have p4 : i ≤ 70000 := by have := HS.out; omega
    have q1 : (i < (u.size : Int)) = True := eq_true hlt
    have q2 : (i ≤ (u.size : Int)) = True := eq_true (by omega)
    have q3 : decide (i < (u.size : Int)) = true := decide_eq_true hlt
    have hx2 := bt_at u i
    have HLT := Aside0.mk hlt
    clear hlt
    rcases ttoks_cases HL1.out.2 with ⟨hc, hr⟩ | ⟨hc, hnil⟩ | ⟨n, T, l, hl, hv, hr⟩
    · have HR := Aside0.mk hr
      clear hr
      by_cases c32 : bt u i ≤ 32
      · have r1 : decide (bt u i ≤ 32) = true := decide_eq_true c32
        clear hc c32
        go_wp2_with fail
        go_roundg ((u.size : Int) - (i + 1)).toNat
        case measure => have := HI.out; have := HLT.out; omega
        case rel => exact ⟨i + 1, L0, L1, av, k1, a1, b1, c1, d1, (by first | rfl | (congr 1; omega)), ⟨by have := HI.out; have := HLT.out; omega⟩, ⟨⟨HL1.out.1, HR.out⟩⟩, HM⟩
      · have hc2 := hc.resolve_left c32
        clear hc c32
        rcases hc2 with hq | hq
        all_goals
          rw [hq] at hx2
          go_wp2_with fail
          go_roundg ((u.size : Int) - (i + 1)).toNat
          case measure => have := HI.out; have := HLT.out; omega
          case rel => exact ⟨i + 1, L0, L1, av, k1, a1, b1, c1, d1, (by first | rfl | (congr 1; omega)), ⟨by have := HI.out; have := HLT.out; omega⟩, ⟨⟨HL1.out.1, HR.out⟩⟩, HM⟩
    · rcases hc with hq | hq
      all_goals
        rw [hq] at hx2
        go_wp2_with fail
        refine wp_label ?_
        have x5 := (blk_cell HM.out.1 5).trans (rfl : _ = some (Value.slice none 0 0))
        go_wp2_with fail
        have r0 := (blk_cell HM.out.2.1 0).trans (rfl : _ = some av)
        have r1 := (blk_cell HM.out.2.1 1).trans (rfl : _ = some (Value.slice none 0 0))
        have r2 := (blk_cell HM.out.2.1 2).trans (rfl : _ = some (Value.map none))
        have r3 := (blk_cell HM.out.2.1 3).trans (rfl : _ = some (Value.map none))
        have r4 := (blk_cell HM.out.2.1 4).trans (rfl : _ = some (Value.int .u8 91))
        obtain ⟨A, cc, eav⟩ := row_slice HM.out.2.2.2.1
        subst eav
        rw [Exit.noGoto_ret]
        refine bodyPost_ret (v := .agg #[.slice A L0.length cc, .slice none 0 0, .map none, .map none, .int .u8 91]) (by simp [results, Tryz.results45, go_sem, r0, r1, r2, r3, r4]) rfl ?_
        have hL0 : L = L0 := by rw [HL1.out.1, hnil, List.append_nil]
        exact ⟨_, rfl, by rw [hL0]; exact resrow_mono HM.out.2.2.2.1 (by have := HB.out; omega), by rw [HB.out.1]; exact HM.out.2.2.2.2.1⟩
    · have HV := Aside0.mk hv
      have HR := Aside0.mk hr
      have HLL : Aside0 (L = (L0 ++ [T]) ++ l) := ⟨by rw [HL1.out.1, hl, List.append_assoc]; rfl⟩
      have HX : Aside0 (Boxes tb rb vb kb B) := ⟨HB.out.2⟩
      have hb0 : bt (u.extract i.toNat u.size) 0 = bt u i := by rw [tail_bt p1 (of_eq_true q2) 0 (Int.le_refl _), Int.add_zero]
      have hts := tail_size p1 (of_eq_true q2)
      have hn1 := hv.2.1
      have hn2 := hv.2.2.1
      have HN : Aside0 (1 ≤ n ∧ i + n ≤ (u.size : Int)) := ⟨by omega⟩
      have HTS := Aside0.mk (show ((u.extract i.toNat u.size).size : Int) ≤ 65536 by have := HS.out; omega)
      have hf := tval_first hv
      rw [hb0] at hf
      have g1 : decide (bt u i ≤ 32) = false := decide_eq_false (by omega)
      have g2 : (bt u i == 93) = false := beq_eq_false_iff_ne.mpr hf.2.1
      have g3 : (bt u i == 125) = false := beq_eq_false_iff_ne.mpr hf.2.2
      have HB0 := Aside0.mk hb0
      clear hv hr hl hn1 hn2 hts hf hb0
      go_upto_block 6 with (fail)
      go_cut [8] from 80 to 249 (fun x8 wc => ∃ (b2 : ByteArray) (c2 : Nat), x8 = .int .i64 i ∧ Aside0 (T.kind = 3 → T.pairs = true → b2 = T.str) ∧ Aside0 (AMem w wc tb rb vb B u b c d av L0 #[.int .i64 T.kind, .string T.raw, .string b2, .float .f64 c2, .int .i64 d1, .slice none 0 0]))
      case first => as_aux_lemma =>
        have hc := HM.out.2.2.1
        have t0 := (blk_cell hc 0).trans (rfl : _ = some (Value.int .i64 k1))
        have t1 := (blk_cell hc 1).trans (rfl : _ = some (Value.string a1))
        have t2 := (blk_cell hc 2).trans (rfl : _ = some (Value.string b1))
        have t3 := (blk_cell hc 3).trans (rfl : _ = some (Value.float .f64 c1))
        have f0 := blk_frozen hc 0
        have f1 := blk_frozen hc 1
        have f2 := blk_frozen hc 2
        have f3 := blk_frozen hc 3
        clear hc g1 g2 g3
        have htr := HV.out.1
        rcases HV.out.2.2.2 with ⟨hk, hq, l', hR, hstr⟩ | ⟨hk, hq, hsq⟩ | ⟨hk, hq, hN, hgo, hst⟩ | ⟨hw, hgo, hst⟩
        · have HTV2 := Aside0.mk (fun W => Ts.tostr_walk (u.extract i.toNat u.size) (by have := HTS.out; omega) hq hR W)
          have HST := Aside0.mk hstr
          have HTR := Aside0.mk htr
          have HKD := Aside0.mk hk
          rw [HB0.out] at hq
          rw [hq] at hx2
          clear hstr htr hR
          go_wp2_with fail
          refine (HTV2.out _).mono ?_
          rintro e w5 ⟨o, rfl, ho, hbe⟩
          have HO := Aside0.mk ho
          have HM5 := Aside0.mk ((HM.out.set HX.out 0 (.int .i64 3)).below HX.out hbe)
          clear ho hbe t0 t1 t2 t3 f0 f1 f2 f3 hk
          have hc := HM5.out.2.2.1
          have t1 := (blk_cell hc 1).trans (rfl : _ = some (Value.string a1))
          have t2 := (blk_cell hc 2).trans (rfl : _ = some (Value.string b1))
          have t3 := (blk_cell hc 3).trans (rfl : _ = some (Value.float .f64 c1))
          have f1 := blk_frozen hc 1
          have f2 := blk_frozen hc 2
          have f3 := blk_frozen hc 3
          clear hc
          go_wp2_with fail
          go_meet
          case rel =>
            refine ⟨o, 0, rfl, ⟨fun _ hp => by rw [HST.out]; exact HO.out hp⟩, ⟨?_⟩⟩
            rw [HTR.out, HKD.out]
            simpa using ((HM5.out.set HX.out 1 (.string ((u.extract i.toNat u.size).extract 0 n.toNat))).set HX.out 2 (.string o)).set HX.out 3 (.float .f64 0)
        · obtain ⟨m, hm⟩ := hsq
          have HSQ := Aside0.mk hm
          have HTR := Aside0.mk htr
          have HKD := Aside0.mk hk
          rw [HB0.out] at hq
          have HQ := Aside0.mk hq
          clear hm htr hk hq
          rcases HQ.out with hq | hq
          all_goals
            clear HQ
            rw [hq] at hx2
            go_wp2_with fail
            refine (gjson_squash.calls m _ _ _ HSQ.out).mono ?_
            rintro e w5 ⟨rfl, hd⟩
            have hbe : Below (wr.setCell ⟨vb, 0, none⟩ (.int .i64 5)).heap.size (wr.setCell ⟨vb, 0, none⟩ (.int .i64 5)) w5 := by
              obtain ⟨⟨nd, rfl⟩⟩ := hd
              exact pw_below_drewN (Below.refl _ _) nd
            have HM5 := Aside0.mk ((HM.out.set HX.out 0 (.int .i64 5)).below HX.out hbe)
            clear hd hbe t0 t1 t2 t3 f0 f1 f2 f3
            have hc := HM5.out.2.2.1
            have t1 := (blk_cell hc 1).trans (rfl : _ = some (Value.string a1))
            have t2 := (blk_cell hc 2).trans (rfl : _ = some (Value.string b1))
            have t3 := (blk_cell hc 3).trans (rfl : _ = some (Value.float .f64 c1))
            have f1 := blk_frozen hc 1
            have f2 := blk_frozen hc 2
            have f3 := blk_frozen hc 3
            clear hc
            go_wp2_with fail
            go_meet
            case rel =>
              refine ⟨⟨#[]⟩, 0, rfl, ⟨fun h => absurd h (by rw [HKD.out]; decide)⟩, ⟨?_⟩⟩
              rw [HTR.out, HKD.out]
              simpa using ((HM5.out.set HX.out 1 (.string ((u.extract i.toNat u.size).extract 0 n.toNat))).set HX.out 2 (.string ⟨#[]⟩)).set HX.out 3 (.float .f64 0)
        · have HTR := Aside0.mk htr
          have HKD := Aside0.mk hk
          have HTN := Aside0.mk (fun (W : World) (hW : Below tb w W) => tonum_walk (u.extract i.toNat u.size) n W HV.out.2.1 HV.out.2.2.1 (by have := HTS.out; omega) hgo hst hN
            ((HTV.out.1.below (by rw [HB.out.1]; exact hW)).mono (by rw [HB.out.1]; have := hW.size; rw [HB.out.1] at this; exact this)) ((HTV.out.2.below (by rw [HB.out.1]; exact hW)).mono (by rw [HB.out.1]; have := hW.size; rw [HB.out.1] at this; exact this)))
          rw [HB0.out] at hq
          have HQ := Aside0.mk hq
          clear hN hgo hst htr hk hq
          rcases HQ.out with hq | ⟨hq1, hq2⟩
          · clear HQ
            rw [hq] at hx2
            go_wp2_with fail
            refine (HTN.out _ (HM.out.set HX.out 0 (.int .i64 2)).2.2.2.2.1).mono ?_
            rintro e w5 ⟨x, rfl, _, hbe⟩
            have HM5 := Aside0.mk ((HM.out.set HX.out 0 (.int .i64 2)).below HX.out hbe)
            clear hbe t0 t1 t2 t3 f0 f1 f2 f3
            have hc := HM5.out.2.2.1
            have t1 := (blk_cell hc 1).trans (rfl : _ = some (Value.string a1))
            have t2 := (blk_cell hc 2).trans (rfl : _ = some (Value.string b1))
            have t3 := (blk_cell hc 3).trans (rfl : _ = some (Value.float .f64 c1))
            have f1 := blk_frozen hc 1
            have f2 := blk_frozen hc 2
            have f3 := blk_frozen hc 3
            clear hc
            go_wp2_with fail
            go_meet
            case rel =>
              refine ⟨⟨#[]⟩, x, rfl, ⟨fun h => absurd h (by rw [HKD.out]; decide)⟩, ⟨?_⟩⟩
              rw [HTR.out, HKD.out]
              simpa using ((HM5.out.set HX.out 1 (.string ((u.extract i.toNat u.size).extract 0 n.toNat))).set HX.out 3 (.float .f64 x)).set HX.out 2 (.string ⟨#[]⟩)
          · have e1 : (bt u i == 123) = false := beq_eq_false_iff_ne.mpr (by omega)
            have e2 : (bt u i == 91) = false := beq_eq_false_iff_ne.mpr (by omega)
            have e3 : (bt u i == 110) = false := beq_eq_false_iff_ne.mpr (by omega)
            have e4 : (bt u i == 116) = false := beq_eq_false_iff_ne.mpr (by omega)
            have e5 : (bt u i == 102) = false := beq_eq_false_iff_ne.mpr (by omega)
            have e6 : (bt u i == 34) = false := beq_eq_false_iff_ne.mpr (by omega)
            have e7 : decide (48 ≤ bt u i) = true := decide_eq_true hq1
            have e8 : decide (bt u i ≤ 57) = true := decide_eq_true hq2
            clear HQ hq1 hq2
            go_wp2_with fail
            refine (HTN.out _ (HM.out.set HX.out 0 (.int .i64 2)).2.2.2.2.1).mono ?_
            rintro e w5 ⟨x, rfl, _, hbe⟩
            have HM5 := Aside0.mk ((HM.out.set HX.out 0 (.int .i64 2)).below HX.out hbe)
            clear hbe t0 t1 t2 t3 f0 f1 f2 f3
            have hc := HM5.out.2.2.1
            have t1 := (blk_cell hc 1).trans (rfl : _ = some (Value.string a1))
            have t2 := (blk_cell hc 2).trans (rfl : _ = some (Value.string b1))
            have t3 := (blk_cell hc 3).trans (rfl : _ = some (Value.float .f64 c1))
            have f1 := blk_frozen hc 1
            have f2 := blk_frozen hc 2
            have f3 := blk_frozen hc 3
            clear hc
            go_wp2_with fail
            go_meet
            case rel =>
              refine ⟨⟨#[]⟩, x, rfl, ⟨fun h => absurd h (by rw [HKD.out]; decide)⟩, ⟨?_⟩⟩
              rw [HTR.out, HKD.out]
              simpa using ((HM5.out.set HX.out 1 (.string ((u.extract i.toNat u.size).extract 0 n.toNat))).set HX.out 3 (.float .f64 x)).set HX.out 2 (.string ⟨#[]⟩)
        · have HTR := Aside0.mk htr
          have HTN := Aside0.mk (fun (W : World) => tolit_walk (u.extract i.toNat u.size) n W HV.out.2.1 HV.out.2.2.1 (by have := HTS.out; omega) hgo hst)
          rw [HB0.out] at hw
          have HQ := Aside0.mk hw
          clear hgo hst htr hw
          rcases HQ.out with ⟨hk, hq⟩ | ⟨hk, hq⟩ | ⟨hk, hq⟩
          all_goals
            clear HQ
            have HKD := Aside0.mk hk
            clear hk
            rw [hq] at hx2
            go_wp2_with fail
            refine (HTN.out _).mono ?_
            rintro e w5 ⟨rfl, rfl⟩
            go_wp2_with fail
            go_meet
            case rel =>
              refine ⟨⟨#[]⟩, 0, rfl, ⟨fun h => absurd h (by rw [HKD.out]; decide)⟩, ⟨?_⟩⟩
              rw [HTR.out, HKD.out]
              first
                | simpa using (((HM.out.set HX.out 0 (.int .i64 4)).set HX.out 1 (.string ((u.extract i.toNat u.size).extract 0 n.toNat))).set HX.out 2 (.string ⟨#[]⟩)).set HX.out 3 (.float .f64 0)
                | simpa using (((HM.out.set HX.out 0 (.int .i64 1)).set HX.out 1 (.string ((u.extract i.toNat u.size).extract 0 n.toNat))).set HX.out 2 (.string ⟨#[]⟩)).set HX.out 3 (.float .f64 0)
                | simpa using (((HM.out.set HX.out 0 (.int .i64 0)).set HX.out 1 (.string ((u.extract i.toNat u.size).extract 0 n.toNat))).set HX.out 2 (.string ⟨#[]⟩)).set HX.out 3 (.float .f64 0)
      case rest =>
        clear HM
        obtain ⟨b2, c2, rfl, HSS, HM2⟩ := hcut
        have hrs : (T.raw.size : Int) = n := by rw [HV.out.1, ByteArray.size_extract]; have := HV.out.2.1; have := HV.out.2.2.1; omega
        have n1 : 1 ≤ n := HN.out.1
        have HRZ : Aside0 (0 < T.raw.size) := ⟨by omega⟩
        have n4 : n ≤ 70000 := by have := HN.out; have := HS.out; omega
        have hc := HM2.out.2.2.1
        have t1 := (blk_cell hc 1).trans (rfl : _ = some (Value.string T.raw))
        have t4 := (blk_cell hc 4).trans (rfl : _ = some (Value.int .i64 d1))
        have f4 := blk_frozen hc 4
        have y4 := (blk_cell HM2.out.1 4).trans (rfl : _ = some (Value.int .i64 d))
        clear hc g1 g2 g3
        go_upto_region 58 with (fail)
        obtain ⟨ix, hix⟩ : ∃ x, wrap64 (i + d) = x := ⟨_, rfl⟩
        rw [hix]
        clear hix
        obtain ⟨W3, hW3⟩ : ∃ W, wc.setCell { block := vb, off := 4 } (Value.int IntKind.i64 ix) = W := ⟨_, rfl⟩
        rw [hW3]
        have HM3 : Aside0 (AMem w W3 tb rb vb B u b c d av L0 #[.int .i64 T.kind, .string T.raw, .string b2, .float .f64 c2, .int .i64 ix, .slice none 0 0]) := ⟨by rw [← hW3]; simpa using HM2.out.set HX.out 4 (.int .i64 ix)⟩
        clear hW3 HM2 t1 t4 f4 y4
        obtain ⟨xs, hrows, hown⟩ := HM3.out.2.2.2.1
        obtain ⟨Ao, co, eav⟩ := own_slice hown
        subst eav
        have HOW := Aside0.mk (And.intro hrows hown)
        have hc := HM3.out.2.2.1
        have t0 := (blk_cell hc 0).trans (rfl : _ = some (Value.int .i64 T.kind))
        have t1 := (blk_cell hc 1).trans (rfl : _ = some (Value.string T.raw))
        have t2 := (blk_cell hc 2).trans (rfl : _ = some (Value.string b2))
        have t3 := (blk_cell hc 3).trans (rfl : _ = some (Value.float .f64 c2))
        have t4 := (blk_cell hc 4).trans (rfl : _ = some (Value.int .i64 ix))
        have t5 := (blk_cell hc 5).trans (rfl : _ = some (Value.slice none 0 0))
        have y0 := (blk_cell HM3.out.2.1 0).trans (rfl : _ = some (Value.slice Ao L0.length co))
        have y4 := (blk_cell HM3.out.2.1 4).trans (rfl : _ = some (Value.int .u8 91))
        have hbs := fun W => build_one T.kind T.raw b2 c2 ix none 0 0 W
        have HLL2 : Aside0 (L0.length + 1 ≤ 65536) := ⟨by have h1 := HLEN.out; rw [HLL.out] at h1; simp only [List.length_append, List.length_singleton] at h1; omega⟩
        clear hc hrows hown hrs
        go_wp2_with (at_builtin; refine print_append_cells (w0 := W3) B rfl (.tmp 245) (.tmp 247) 58 50 (.agg #[.int .i64 0, .string ⟨#[]⟩, .string ⟨#[]⟩, .float .f64 0, .int .i64 0, .slice none 0 0]) 6 80 rfl Tryz.underlying58 info_res rfl (by decide) (by decide) (.slice Ao L0.length co) L0.length xs [.int .i64 T.kind, .string T.raw, .string b2, .float .f64 c2, .int .i64 ix, .slice none 0 0] rfl rfl rfl (by simp [Value.oneCell']) HOW.out.2 (Below.refl _ _) HM3.out.2.2.2.2.2 (by have := HLL2.out; omega) ?_; intro v1 w4 ho1 hB4 hg4 hat4; have HM4 := Aside0.mk (AMem.append HX.out HM3.out HOW.out.1 HOW.out.2 ⟨b2, c2, _, rfl, HSS.out, .inr HRZ.out⟩ ho1 hg4); obtain ⟨A1, m1, n1, e1⟩ := Tl.own_slice3 ho1; subst e1; have hg5 := blk_grown HM3.out.2.1 hg4 (fun e => by have := own_base HOW.out.2 rb e.symm; have := HX.out; unfold Boxes at this; omega); have z0 := (blk_cell hg5 0).trans (rfl : _ = some (Value.slice Ao L0.length co)); have fz0 := blk_frozen hg5 0; clear hg5 ho1 hB4 hg4 hat4)
        go_roundg ((u.size : Int) - (i + n)).toNat
        case measure => have := HI.out; have := HN.out; omega
        case rel => exact ⟨i + n, L0 ++ [T], l, _, T.kind, T.raw, b2, c2, ix, (by first | rfl | (congr 1; omega)), ⟨by have := HI.out; have := HN.out; omega⟩, ⟨⟨HLL.out, HR.out⟩⟩, HM4⟩
end Go.Proofs.YtldfejbmdonaoaaGreatDoor.Am