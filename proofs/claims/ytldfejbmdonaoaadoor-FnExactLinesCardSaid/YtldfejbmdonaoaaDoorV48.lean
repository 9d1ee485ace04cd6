/- Joined by a program of mine from texts of this claim: Le. -/
import Derived.Test.YtldfejbmdonaoaaDoorV46
import Derived.Test.YtldfejbmdonaoaaDoorV47
namespace Go.Proofs.YtldfejbmdonaoaaDoor.Le
open Go.RowKit YtldfejbmdonaoaaDoorW.PrintWords YtldfejbmdonaoaaDoorW.PrintLast YtldfejbmdonaoaaDoorW.PrintMore Tw Tp Te At Pz Gp Gv Gn Sn Lq Lv La Lc
set_option linter.unusedVariables false
set_option linter.unusedSimpArgs false
set_option maxRecDepth 100000 in
set_option maxHeartbeats 8000000 in
theorem exists_no (w : World) : Calls Tryd.prog 30 #[.agg #[.int .i64 0, .string ⟨#[]⟩, .string ⟨#[]⟩, .float .f64 0, .int .i64 0, .slice none 0 0]] w fun e w' => e = .returned (.bool false) ∧ Below w.heap.size w w' := by
  have HB := Aside0.mk ((Below.refl w.heap.size w).alloc (Nat.le_refl _) (Obj.cells #[.int .i64 0, .string ⟨#[]⟩, .string ⟨#[]⟩, .float .f64 0, .int .i64 0, .slice none 0 0] 51))
  go_enter Tryd.func30, Tryd.ntmps30
  go_wp2
  go_ret
  exact ⟨rfl, HB.out⟩
def Mem (w0 : World) (B ob rb : Nat) (v : Value) (L : List ByteArray) (wr : World) : Prop :=
  OutSt B ob v L wr ∧ Below B w0 wr ∧ B ≤ wr.heap.size ∧ rb ≠ ob ∧ B ≤ rb
theorem mem_below {w0 : World} {B ob rb : Nat} {v : Value} {L : List ByteArray} {wr w' : World} (h : Mem w0 B ob rb v L wr) (hb : Below wr.heap.size wr w') : Mem w0 B ob rb v L w' := by
  obtain ⟨h1, h2, h3, h4, h5⟩ := h
  exact ⟨⟨blk_below h1.box hb, own_keep h1.own fun q hq => hb.block q (own_lt h1.own q hq), h1.lo⟩, below_then h2 h3 hb, Nat.le_trans h3 hb.size, h4, h5⟩
theorem mem_set {w0 : World} {B ob rb : Nat} {v : Value} {L : List ByteArray} {wr : World} (h : Mem w0 B ob rb v L wr) (hn : some rb ≠ v.ownBlock) (j : Nat) (x : Value) : Mem w0 B ob rb v L (wr.setCell ⟨rb, j, none⟩ x) := by
  obtain ⟨h1, h2, h3, h4, h5⟩ := h
  exact ⟨⟨blk_far h1.box (by show ob ≠ rb; omega) _, ownsRow_setCell_other h1.own (fun h => hn h.symm) _, h1.lo⟩, h2.setCell (by show B ≤ rb; omega) _, by simpa [World.setCell] using h3, h4, h5⟩
set_option maxRecDepth 100000 in
set_option maxHeartbeats 8000000 in
theorem each_walk (w0 : World) (B ob : Nat) (u : ByteArray) (L : List ByteArray) (hs : (u.size : Int) ≤ 200000) (hlen : L.length ≤ 70000) (hV : Vals u 0 L) (v : Value) (w : World) (hO : OutSt B ob v [] w) (hB : Below B w0 w) (hBw : B ≤ w.heap.size)
    (hT : ∀ W, Below B w0 W → B ≤ W.heap.size → VTab W ∧ Tabs W W.heap.size ∧ ErrVars W W.heap.size) :
    Calls Tryd.prog 23 #[.string u, .func (.func 24) #[] #[.pointer (some ⟨ob, 0, none⟩)]] w fun e w' => e = .returned (.tuple #[]) ∧ ∃ v', OutSt B ob v' L w' ∧ Below B w0 w' := by
  have HT := Aside0.mk hT
  have HLEN := Aside0.mk hlen
  have HS := Aside0.mk hs
  have hx0 := heap_alloc_new w (.cells #[.int .i64 0, .string ⟨#[]⟩, .string ⟨#[]⟩, .float .f64 0, .int .i64 0, .slice none 0 0] 51)
  have hm0 : Mem w0 B ob w.heap.size v [] (w.alloc (.cells #[.int .i64 0, .string ⟨#[]⟩, .string ⟨#[]⟩, .float .f64 0, .int .i64 0, .slice none 0 0] 51)) := ⟨⟨blk_alloc hO.box _, hO.own.alloc _, hO.lo⟩, hB.alloc hBw _, by simp; omega, by have := blk_lt hO.box; omega, hBw⟩
  obtain ⟨W1, hW1⟩ : ∃ W1, w.alloc (.cells #[.int .i64 0, .string ⟨#[]⟩, .string ⟨#[]⟩, .float .f64 0, .int .i64 0, .slice none 0 0] 51) = W1 := ⟨_, rfl⟩
  rw [hW1] at hx0 hm0
  obtain ⟨rb, hrb⟩ : ∃ rb, w.heap.size = rb := ⟨_, rfl⟩
  rw [hrb] at hx0 hm0
  have HX0 := Aside0.mk hx0
  have HM0 := Aside0.mk hm0
  have HV0 := Aside0.mk hV
  have HW := Aside0.mk (And.intro hW1 hrb)
  clear hT hlen hs hx0 hm0 hO hB hBw hW1 hrb hV
  go_enter Tryd.func23, Tryd.ntmps23
  go_wp2_with fail
  rw [HW.out.1, HW.out.2]
  clear HW
  go_loopg [5] (L.length + 1) (fun kq x5 wr => ∃ (i : Int) (L0 L1 : List ByteArray) (v1 : Value) (k1 : Int) (a1 b1 : ByteArray) (c1 : Nat) (d1 : Int), x5 = .int .i64 i ∧ Aside0 (L = L0 ++ L1 ∧ Vals u i L1 ∧ L1.length + 1 ≤ kq) ∧ Aside0 (Mem w0 B ob rb v1 L0 wr ∧ wr.heap[rb]? = some (.cells #[.int .i64 k1, .string a1, .string b1, .float .f64 c1, .int .i64 d1, .slice none 0 0] 51 (0, 0))))
  case atStart => exact ⟨0, [], L, v, 0, ⟨#[]⟩, ⟨#[]⟩, 0, 0, rfl, ⟨rfl, HV0.out, Nat.le_refl _⟩, ⟨HM0.out, HX0.out⟩⟩
  case round =>
    clear HM0 HX0 HV0
    obtain ⟨i, L0, L1, v1, k1, a1, b1, c1, d1, rfl, HI, HM⟩ := hrel
    have HTW := Aside0.mk (HT.out wr HM.out.1.2.1 HM.out.1.2.2.1)
    have hvals := HI.out.2.1
    cases hvals with
    | nil h0 h1 hb =>
      have HN := Aside0.mk (any_none u i HS.out h0 h1 hb wr)
      have hLL : L = L0 := by have := HI.out.1; simpa using this
      clear h0 h1 hb
      go_wp2_with fail
      refine HN.out.mono ?_
      rintro e w5 ⟨rfl, hbe⟩
      have HM5 := Aside0.mk (mem_below HM.out.1 hbe)
      have HX5 := Aside0.mk (blk_below HM.out.2 hbe)
      have hne := own_apart HM5.out.1.own HX5.out (by decide)
      obtain ⟨W6, hW6⟩ : ∃ W6, ((((((w5.setCell ⟨rb, 0, none⟩ (.int .i64 0)).setCell ⟨rb, 1, none⟩ (.string ⟨#[]⟩)).setCell ⟨rb, 2, none⟩ (.string ⟨#[]⟩)).setCell ⟨rb, 3, none⟩ (.float .f64 0)).setCell ⟨rb, 4, none⟩ (.int .i64 0)).setCell ⟨rb, 5, none⟩ (.slice none 0 0)) = W6 := ⟨_, rfl⟩
      have HM6 := Aside0.mk (show Mem w0 B ob rb v1 L0 W6 by rw [← hW6]; exact (mem_set (mem_set (mem_set (mem_set (mem_set (mem_set HM5.out hne 0 (.int .i64 0)) hne 1 (.string ⟨#[]⟩)) hne 2 (.string ⟨#[]⟩)) hne 3 (.float .f64 0)) hne 4 (.int .i64 0)) hne 5 (.slice none 0 0)))
      have HX6 := Aside0.mk (show W6.heap[rb]? = some (.cells #[.int .i64 0, .string ⟨#[]⟩, .string ⟨#[]⟩, .float .f64 0, .int .i64 0, .slice none 0 0] 51 (0, 0)) by rw [← hW6]; simpa using (blk_set (blk_set (blk_set (blk_set (blk_set (blk_set HX5.out 0 (.int .i64 0)) 1 (.string ⟨#[]⟩)) 2 (.string ⟨#[]⟩)) 3 (.float .f64 0)) 4 (.int .i64 0)) 5 (.slice none 0 0)))
      have HW6 := Aside0.mk hW6
      clear hbe hne hW6
      have t0 := (blk_cell HX5.out 0).trans (rfl : _ = some (Value.int .i64 k1))
      have t1 := (blk_cell HX5.out 1).trans (rfl : _ = some (Value.string a1))
      have t2 := (blk_cell HX5.out 2).trans (rfl : _ = some (Value.string b1))
      have t3 := (blk_cell HX5.out 3).trans (rfl : _ = some (Value.float .f64 c1))
      have t4 := (blk_cell HX5.out 4).trans (rfl : _ = some (Value.int .i64 d1))
      have t5 := (blk_cell HX5.out 5).trans (rfl : _ = some (Value.slice none 0 0))
      have f0 := blk_frozen HX5.out 0
      have f1 := blk_frozen HX5.out 1
      have f2 := blk_frozen HX5.out 2
      have f3 := blk_frozen HX5.out 3
      have f4 := blk_frozen HX5.out 4
      have f5 := blk_frozen HX5.out 5
      go_wp2_with fail
      rw [HW6.out]
      clear HW6 t0 t1 t2 t3 t4 t5 f0 f1 f2 f3 f4 f5
      refine (exists_no W6).mono ?_
      rintro e w7 ⟨rfl, hbe⟩
      have HM7 := Aside0.mk (mem_below HM6.out hbe)
      clear hbe
      go_wp2_with fail
      go_end0
      rw [hLL]
      exact ⟨rfl, v1, HM7.out.1, HM7.out.2.1⟩
    | @cons _ p n l hL hv ht =>
      have HN := Aside0.mk (any_val u i p n hL hv wr HTW.out.1 HTW.out.2.1 HTW.out.2.2)
      have hrz : 0 < (u.extract p.toNat n.toNat).size := by rw [ByteArray.size_extract]; have := hL.lo; have := hL.le; have := hL.lt; have := hL.hi; omega
      unfold AnyPost at HN
      obtain ⟨RAW, hRAW⟩ : ∃ RAW, u.extract p.toNat n.toNat = RAW := ⟨_, rfl⟩
      rw [hRAW] at HN hrz HI
      have HRZ := Aside0.mk hrz
      have HTL := Aside0.mk ht
      clear hL hv ht hRAW hrz HTW
      go_wp2_with fail
      refine HN.out.mono ?_
      rintro e w5 ⟨k2, b2, c2, d2, rfl, hbe⟩
      have HM5 := Aside0.mk (mem_below HM.out.1 hbe)
      have HX5 := Aside0.mk (blk_below HM.out.2 hbe)
      have hne := own_apart HM5.out.1.own HX5.out (by decide)
      obtain ⟨W6, hW6⟩ : ∃ W6, ((((((w5.setCell ⟨rb, 0, none⟩ (.int .i64 k2)).setCell ⟨rb, 1, none⟩ (.string RAW)).setCell ⟨rb, 2, none⟩ (.string b2)).setCell ⟨rb, 3, none⟩ (.float .f64 c2)).setCell ⟨rb, 4, none⟩ (.int .i64 d2)).setCell ⟨rb, 5, none⟩ (.slice none 0 0)) = W6 := ⟨_, rfl⟩
      have HM6 := Aside0.mk (show Mem w0 B ob rb v1 L0 W6 by rw [← hW6]; exact (mem_set (mem_set (mem_set (mem_set (mem_set (mem_set HM5.out hne 0 (.int .i64 k2)) hne 1 (.string RAW)) hne 2 (.string b2)) hne 3 (.float .f64 c2)) hne 4 (.int .i64 d2)) hne 5 (.slice none 0 0)))
      have HX6 := Aside0.mk (show W6.heap[rb]? = some (.cells #[.int .i64 k2, .string RAW, .string b2, .float .f64 c2, .int .i64 d2, .slice none 0 0] 51 (0, 0)) by rw [← hW6]; simpa using (blk_set (blk_set (blk_set (blk_set (blk_set (blk_set HX5.out 0 (.int .i64 k2)) 1 (.string RAW)) 2 (.string b2)) 3 (.float .f64 c2)) 4 (.int .i64 d2)) 5 (.slice none 0 0)))
      have HW6 := Aside0.mk hW6
      clear hbe hne hW6
      have t0 := (blk_cell HX5.out 0).trans (rfl : _ = some (Value.int .i64 k1))
      have t1 := (blk_cell HX5.out 1).trans (rfl : _ = some (Value.string a1))
      have t2 := (blk_cell HX5.out 2).trans (rfl : _ = some (Value.string b1))
      have t3 := (blk_cell HX5.out 3).trans (rfl : _ = some (Value.float .f64 c1))
      have t4 := (blk_cell HX5.out 4).trans (rfl : _ = some (Value.int .i64 d1))
      have t5 := (blk_cell HX5.out 5).trans (rfl : _ = some (Value.slice none 0 0))
      have f0 := blk_frozen HX5.out 0
      have f1 := blk_frozen HX5.out 1
      have f2 := blk_frozen HX5.out 2
      have f3 := blk_frozen HX5.out 3
      have f4 := blk_frozen HX5.out 4
      have f5 := blk_frozen HX5.out 5
      go_wp2_with fail
      rw [HW6.out]
      clear HW6 t0 t1 t2 t3 t4 t5 f0 f1 f2 f3 f4 f5
      refine (exists_any k2 RAW (.inr HRZ.out) _ _ _ _ W6).mono ?_
      rintro e w7 ⟨rfl, hbe⟩
      have HM7 := Aside0.mk (mem_below HM6.out hbe)
      have HX7 := Aside0.mk (blk_below HX6.out hbe)
      clear hbe HN
      have t0 := (blk_cell HX7.out 0).trans (rfl : _ = some (Value.int .i64 k2))
      have t1 := (blk_cell HX7.out 1).trans (rfl : _ = some (Value.string RAW))
      have t2 := (blk_cell HX7.out 2).trans (rfl : _ = some (Value.string b2))
      have t3 := (blk_cell HX7.out 3).trans (rfl : _ = some (Value.float .f64 c2))
      have t4 := (blk_cell HX7.out 4).trans (rfl : _ = some (Value.int .i64 d2))
      have t5 := (blk_cell HX7.out 5).trans (rfl : _ = some (Value.slice none 0 0))
      go_wp2_with fail
      refine (line_walk w0 B ob v1 L0 (by have h1 := HLEN.out; rw [HI.out.1] at h1; simp at h1; omega) k2 RAW b2 c2 d2 w7 HM7.out.1 HM7.out.2.1 HM7.out.2.2.1).mono ?_
      rintro e w8 ⟨rfl, v2, hO8, hB8, hs8, hk8⟩
      have HM8 := Aside0.mk (show Mem w0 B ob rb v2 (L0 ++ [RAW]) w8 from ⟨hO8, hB8, Nat.le_trans HM7.out.2.2.1 hs8, HM7.out.2.2.2.1, HM7.out.2.2.2.2⟩)
      have HX8 := Aside0.mk (hk8 rb _ HM7.out.2.2.2.1 HX7.out)
      clear hO8 hB8 hs8 hk8 t0 t1 t2 t3 t4 t5
      go_wp2_with fail
      go_roundg (l.length + 1)
      case measure => have h1 := HI.out.2.2; simp only [List.length_cons] at h1; omega
      case rel => exact ⟨n, L0 ++ [RAW], l, v2, k2, RAW, b2, c2, d2, rfl, ⟨by rw [HI.out.1, List.append_assoc]; rfl, HTL.out, Nat.le_refl _⟩, ⟨HM8.out, HX8.out⟩⟩
set_option maxRecDepth 100000 in
set_option maxHeartbeats 8000000 in
theorem lines_walk (u : ByteArray) (L : List ByteArray) (hs : (u.size : Int) ≤ 200000) (hlen : L.length ≤ 70000) (hV : Vals u 0 L) (w : World) (hT : VTab w) (hA : Tabs w w.heap.size) (hE : ErrVars w w.heap.size) :
    Calls Tryd.prog 15 #[.string u] w fun e w' => ∃ v, e = .returned v ∧ w'.ownsRow w.heap.size 9 1 v L.length (L.map Value.string) ∧ Below w.heap.size w w' := by
  have hmf : ∀ (fn : Fn) (first cap : Array Value) (w : World), (Instr.makeFunc fn first cap).run Tryd.prog w = .ok (.func fn first cap) w := fun _ _ _ _ => rfl
  have HT := Aside0.mk (fun (W : World) (hb : Below w.heap.size w W) (_ : w.heap.size ≤ W.heap.size) => (⟨VTab.below hT hb, (hA.below hb).mono hb.size, (hE.below hb).mono hb.size⟩ : VTab W ∧ Tabs W W.heap.size ∧ ErrVars W W.heap.size))
  have HS := Aside0.mk hs
  have HV := Aside0.mk hV
  have HLEN := Aside0.mk hlen
  clear hs hV hT hA hE hlen
  go_enter Tryd.func15, Tryd.ntmps15
  go_wp2_with fail
  have hown := (World.ownsRow_made (base := w.heap.size) (e := 9) (size := 1) w #[] 0 (Nat.le_refl _) (by decide) (by simp)).alloc (.cells #[.slice (some ⟨w.heap.size, 0, none⟩) 0 0] 22)
  have hbox := heap_alloc_new (w.alloc (.cells #[] 9)) (.cells #[.slice (some ⟨w.heap.size, 0, none⟩) 0 0] 22)
  rw [show (w.alloc (.cells #[] 9)).heap.size = w.heap.size + 1 by simp] at hbox
  have hbel := (((Below.refl w.heap.size w).alloc (Nat.le_refl _) (.cells #[] 9)).alloc (by simp) (.cells #[.slice (some ⟨w.heap.size, 0, none⟩) 0 0] 22))
  obtain ⟨W2, hW2⟩ : ∃ W2, (w.alloc (.cells #[] 9)).alloc (.cells #[.slice (some ⟨w.heap.size, 0, none⟩) 0 0] 22) = W2 := ⟨_, rfl⟩
  rw [hW2] at hown hbox hbel ⊢
  clear hW2
  refine (each_walk w w.heap.size (w.heap.size + 1) u L HS.out HLEN.out HV.out _ W2 ⟨hbox, hown, by omega⟩ hbel hbel.size HT.out).mono ?_
  rintro e w3 ⟨rfl, v', hO, hb⟩
  obtain ⟨A, cc, rfl⟩ := own_slice hO.own
  have z0 := (blk_cell hO.box 0).trans (rfl : _ = some (Value.slice A L.length cc))
  have HO := Aside0.mk hO
  have HB := Aside0.mk hb
  clear hown hbox hbel hO hb
  go_wp2_with fail
  go_ret
  exact ⟨_, rfl, HO.out.own, HB.out⟩
end Go.Proofs.YtldfejbmdonaoaaDoor.Le