/- Joined by a program of mine from texts of this claim: Uw. -/
import Derived.Test.YtldfejbmdonaoaaGreatDoorZ20
import Derived.Test.YtldfejbmdonaoaaGreatDoorZ21
import Derived.Lib.AppendZeros
import Derived.Deep.RegionHeld3
import Derived.Deep.AppendLies
import Derived.StillTactics
import Derived.RegionTactic
import Derived.BigRegion
import Derived.Deep.QuietTactic
import Derived.BigQuiet
namespace Go.Proofs.YtldfejbmdonaoaaGreatDoor.Uw
open Go.RowKit YtldfejbmdonaoaaGreatDoorW.PrintWords YtldfejbmdonaoaaGreatDoorW.PrintLast YtldfejbmdonaoaaGreatDoorW.PrintMore Te Uu Ua
set_option linter.unusedVariables false
set_option linter.unusedSimpArgs false
def HexTab (w : World) : Prop := ∀ j : Nat, j < 16 → w.cell? ⟨0, j, none⟩ = some (.int .u8 (hxc j))
theorem HexTab.at {w : World} (h : HexTab w) {x : Int} (h0 : 0 ≤ x) (h1 : x < 16) : w.cell? ⟨0, x.toNat, none⟩ = some (.int .u8 (hxc x)) := by
  rw [h x.toNat (by omega)]
  congr 2
  rw [show ((x.toNat : Nat) : Int) = x by omega]
theorem HexTab.below {B : Nat} {w w' : World} (h : HexTab w) (hb : Below B w w') (hB : 0 < B) : HexTab w' := fun j hj => by
  rw [World.cell?_of_block (w := w) (hb.block _ hB)]
  exact h j hj
theorem info5 : (Tryz.prog.info? 5).map (fun i => (i.zero, i.size, i.bytes)) = some (some (.int .u8 0), 1, 1) := by kernel_rfl
theorem app_lit {P : Program} {ops : Array Oper} {rest : List Oper} {o : Oper} {a : Act} {Q : Exit → Act → World → Prop} {w0 W : World} (B : Nat) (hgd : o.guard = none) (s x : Operand) (t e : TypeId)
    (ho : o.op = .call { callee := .builtin .append, args := #[s, x], argTypes := #[t, t] })
    (ht : P.underlying t = some (.slice e)) (hinfo : (P.info? e).map (fun i => (i.zero, i.size, i.bytes)) = some (some (.int .u8 0), 1, 1))
    (v : Value) (xs ys : List Int) (hs : a.eval s = v) (hx : a.eval x = .slice (some ⟨W.heap.size, 0, none⟩) ys.length ys.length)
    (HO : W.ownsRow B e 1 v xs.length (nums .u8 xs)) (HB : Below B w0 W) (hB : B ≤ W.heap.size) (hl : xs.length + ys.length ≤ 140737488355328)
    (h : ∀ v1 w1, w1.ownsRow B e 1 v1 (xs ++ ys).length (nums .u8 (xs ++ ys)) → Below B w0 w1 → B ≤ w1.heap.size → wpList P ops Q rest (a.put o.dst v1) w1) :
    wpList P ops Q (o :: rest) a (W.alloc (.cells (nums .u8 ys).toArray e)) := by
  refine print_append_row (w0 := w0) (W := W.alloc (.cells (nums .u8 ys).toArray e)) B hgd s x t e .u8 1 ho ht hinfo (by decide) v xs ys (some ⟨W.heap.size, 0, none⟩) ys.length ys.length hs hx (HO.alloc _) ?_ (HB.alloc hB _) (by simp; omega) (by omega) ?_
  · refine ⟨rfl, by omega, fun hp => ⟨_, rfl, fun j hj => ?_⟩⟩
    rw [add_plain, cell_of_row _ _ _ _ _ _ (heap_alloc_new W _)]
    simp [nums, List.getElem?_eq_getElem hj, List.getD_eq_getElem?_getD]
  · intro v1 w1 h1 h2 h3 h4
    exact h v1 w1 h1 h2 (by have := h3.size; simp at this; omega)
set_option maxRecDepth 100000 in
set_option maxHeartbeats 8000000 in
theorem hex16_walk (B : Nat) (v : Value) (xs : List Int) (x : Int) (w0 w : World) (h0 : 0 ≤ x) (h1 : x < 256) (hR : w.ownsRow B 5 1 v xs.length (nums .u8 xs)) (hb : Below B w0 w) (hB : B ≤ w.heap.size) (hT : HexTab w) (hG : 0 < B) (hl : xs.length ≤ 1000000) :
    Calls Tryz.prog 47 #[v, .int .u16 x] w fun e w' => ∃ v1, e = .returned v1 ∧ w'.ownsRow B 5 1 v1 (xs ++ [48, 48, hxc (x / 16), hxc (x % 16)]).length (nums .u8 (xs ++ [48, 48, hxc (x / 16), hxc (x % 16)])) ∧ Below B w0 w' ∧ B ≤ w'.heap.size := by
  have HR := Aside0.mk hR
  have HT := Aside0.mk hT
  have HG := Aside0.mk hG
  have HB := Aside0.mk (And.intro hb hB)
  have HL := Aside0.mk hl
  have HX := Aside0.mk (And.intro h0 h1)
  clear hR hT hG hb hB hl
  have t0 : w.cell? ⟨0, 0, none⟩ = some (.int .u8 48) := HT.out 0 (by decide)
  have t1 := HT.out.at (x := x / 16) (by omega) (by omega)
  have t2 := HT.out.at (x := x % 16) (by omega) (by omega)
  obtain ⟨y1, hy1⟩ : ∃ y, hxc (x / 16) = y := ⟨_, rfl⟩
  obtain ⟨y2, hy2⟩ : ∃ y, hxc (x % 16) = y := ⟨_, rfl⟩
  rw [hy1] at t1 ⊢
  rw [hy2] at t2 ⊢
  clear hy1 hy2
  go_enter Tryz.func47, Tryz.ntmps47
  go_wp2
  have w16 : ∀ n : Int, 0 ≤ n → n < 2 ^ 16 → IntKind.u16.wrap n = n := fun n a b => by simp [IntKind.wrap, IntKind.signed, IntKind.bits]; omega
  have m15 : ∀ y : Int, 0 ≤ y → y < 256 → bits .and .u16 y 15 = y % 16 := fun y a b => bits_mask .u16 16 (by decide) w16 4 (by decide) y a (by omega)
  have b0 : bits .and .u16 (x / 4096) 15 = 0 := by rw [m15 _ (by omega) (by omega)]; omega
  have b1 : bits .and .u16 (x / 256) 15 = 0 := by rw [m15 _ (by omega) (by omega)]; omega
  have b2 : bits .and .u16 (x / 16) 15 = x / 16 := by rw [m15 _ (by omega) (by omega)]; omega
  have b3 : bits .and .u16 x 15 = x % 16 := m15 _ h0 h1
  have i0 : 0 ≤ x / 16 := by omega
  have i1 : x / 16 < 16 := by omega
  have i2 : 0 ≤ x % 16 := by omega
  have i3 : x % 16 < 16 := by omega
  clear w16 m15
  obtain ⟨i5, hi0, hz0, hz1, hz2⟩ := info_parts info5
  have hown : ∀ k, v.ownBlock = some k → B ≤ k := own_base HR.out
  have hlt : ∀ k, v.ownBlock = some k → 0 ≠ k := fun k hk => by have := hown k hk; have := HG.out; omega
  have HOWN := Aside0.mk (And.intro hown hlt)
  clear hown hlt
  go_region_held3 (fun w' => w'.cell? ⟨0, 0, none⟩ = some (.int .u8 48) ∧ w'.cell? ⟨0, (x / 16).toNat, none⟩ = some (.int .u8 y1) ∧ w'.cell? ⟨0, (x % 16).toNat, none⟩ = some (.int .u8 y2))
    (first
      | go_keep
      | (go_split_ands
         refine ⟨?_, ?_, ?_⟩
         all_goals (rw [hgrow.cell_far _ (by simp) (fun hk => HOWN.out.2 _ hk.symm rfl)]; assumption)))
    ((refine step_append_lies _ (by rfl) _ _ _ (by rfl) B 5 i5 _ 1 1 Tryz.underlying53 hi0 hz0 hz1 hz2 rfl (by omega) v xs.length (nums .u8 xs) (by rfl) ((HR.out.alloc _).drew)
        ⟨w.heap.size, 0, none⟩ 4 4 [.int .u8 48, .int .u8 48, .int .u8 y1, .int .u8 y2] (by rfl) (by rfl) (World.news_of_block (cs := #[.int .u8 48, .int .u8 48, .int .u8 y1, .int .u8 y2]) (t := 5) (fr := (0, 0)) (heap_alloc_new w _)) (by simp [Value.oneCell'])
        (by omega) (by have := HL.out; simp only [maxLen]; omega) (by have := HL.out; omega) (by have := HB.out.2; simp; omega) (w.heap.size + 1) (by simp) ?_; intro gg cap w1 hown1 hgrow hat hlt))
  have HB2 := Aside0.mk (Below.grown (pw_below_drewN (HB.out.1.alloc HB.out.2 _) 1) hgrow (by have := HB.out.2; simp; omega) HOWN.out.1)
  have HO2 := Aside0.mk hown1
  have HS2 : Aside0 (B ≤ w1.heap.size) := ⟨by have h2 := HB.out.2; have h3 := hgrow.size; simp at h3; omega⟩
  clear hown1 hgrow t0 t1 t2
  go_wp2
  go_ret
  refine ⟨_, rfl, ?_, HB2.out, HS2.out⟩
  have := HO2.out
  simpa [nums] using this
def St (B : Nat) (w0 w : World) (v : Value) (xs : List Int) : Prop := w.ownsRow B 5 1 v xs.length (nums .u8 xs) ∧ Below B w0 w ∧ B ≤ w.heap.size
theorem app_str {P : Program} {ops : Array Oper} {rest : List Oper} {o : Oper} {a : Act} {Q : Exit → Act → World → Prop} {w0 W : World} (B : Nat) (hgd : o.guard = none) (s x : Operand) (t u e : TypeId)
    (ho : o.op = .call { callee := .builtin .append, args := #[s, x], argTypes := #[t, u] })
    (ht : P.underlying t = some (.slice e)) (hu : P.underlying u = some .string) (hinfo : (P.info? e).map (fun i => (i.zero, i.size, i.bytes)) = some (some (.int .u8 0), 1, 1))
    (v : Value) (xs : List Int) (y : ByteArray) (hs : a.eval s = v) (hx : a.eval x = .string y)
    (HO : W.ownsRow B e 1 v xs.length (nums .u8 xs)) (HB : Below B w0 W) (hB : B ≤ W.heap.size) (hl : xs.length + y.size ≤ 140737488355328)
    (h : ∀ v1 w1, w1.ownsRow B e 1 v1 (xs ++ bytesOf y).length (nums .u8 (xs ++ bytesOf y)) → Below B w0 w1 → B ≤ w1.heap.size → wpList P ops Q rest (a.put o.dst v1) w1) :
    wpList P ops Q (o :: rest) a W :=
  print_append_str B hgd s x t u e ho ht hu hinfo v xs y hs hx HO HB hB hl fun v1 w1 h1 h2 h3 => h v1 w1 h1 h2 (Nat.le_trans hB h3.size)
theorem bytes_ext {s : ByteArray} {i n : Int} (h0 : 0 ≤ i) (hn : 0 ≤ n) (h1 : i + n ≤ (s.size : Int)) : bytesOf (s.extract i.toNat (i + n).toNat) = cbytes s i n := by
  unfold cbytes bytesOf
  rw [show (s.extract i.toNat (i + n).toNat).data.toList = (s.data.toList.drop i.toNat).take n.toNat by
    rw [ByteArray.data_extract, Array.toList_extract, List.extract_eq_take_drop]
    congr 1
    omega, List.map_take, List.map_drop]
def AppPost (B : Nat) (w : World) (xs : List Int) (e : Ending) (w' : World) : Prop := ∃ v1, e = .returned v1 ∧ w'.ownsRow B 5 1 v1 xs.length (nums .u8 xs) ∧ Below B w w'
theorem tabs_below {B g3 g4 : Nat} {w w' : World} (h : Lib.Utf8Tabs g3 g4 w) (hb : Below B w w') (h3 : g3 < B) (h4 : g4 < B) : Lib.Utf8Tabs g3 g4 w' :=
  ⟨fun c hc => by rw [World.cell?_of_block (w := w) (hb.block _ h3)]; exact h.1 c hc, fun i hi => ⟨by rw [World.cell?_of_block (w := w) (hb.block _ h4)]; exact (h.2 i hi).1, by rw [World.cell?_of_block (w := w) (hb.block _ h4)]; exact (h.2 i hi).2⟩⟩
set_option maxRecDepth 100000 in
set_option maxHeartbeats 8000000 in
theorem append_walk (s : ByteArray) (hs : (s.size : Int) ≤ 5000) (l : List Int) (hE : Enc s 0 l) (w : World) (hT : HexTab w) (hU : Lib.Utf8Tabs 1 2 w) :
    Calls Tryz.prog 32 #[.slice none 0 0, .string s] w (AppPost w.heap.size w (34 :: l ++ [34])) := by
  have HE := Aside0.mk hE
  have HT := Aside0.mk hT
  have HU := Aside0.mk hU
  have HS := Aside0.mk hs
  have hL := (enc_bytes hE (Int.le_refl _)).2
  have HLL : Aside0 (l.length ≤ 30000) := ⟨by omega⟩
  have g1 : 0 < w.heap.size := World.block_lt_of_cell? w _ (hT 0 (by decide))
  have g2 : 1 < w.heap.size := World.block_lt_of_cell? w _ (hU.1 0 (by decide))
  have g3 : 2 < w.heap.size := World.block_lt_of_cell? w _ (hU.2 0 (by decide)).1
  obtain ⟨i5, hi0, hz0, hz1, hz2⟩ := info_parts info5
  have HZ := Aside0.mk (Lib.run_append_nil_zeros (P := Tryz.prog) w 53 3 53 5 i5 (.int .u8 0) .i64 .i64 Tryz.underlying53 Tryz.underlying3 hi0 hz0 (s.size + 2) (by omega) (by omega) (by omega) (by rw [hz2]; omega))
  have e1 : IntKind.i64.wrap ((s.size : Int) + 2) = ((s.size + 2 : Nat) : Int) := by simp [IntKind.wrap, IntKind.signed, IntKind.bits]; omega
  have hcap := grownCap_ge w (s.size + 2) 0 5
  have hcap2 := grownCap_le_maxLen w (s.size + 2) 0 5 (by simp only [maxLen]; omega)
  obtain ⟨B, hB⟩ : ∃ B, w.heap.size = B := ⟨_, rfl⟩
  rw [hB] at g1 g2 g3 HZ ⊢
  have HG := Aside0.mk g1
  have HG2 := Aside0.mk (And.intro g2 g3)
  have HB0 := Aside0.mk hB
  obtain ⟨c, hc⟩ : ∃ c, grownCap w (s.size + 2) 0 5 = c := ⟨_, rfl⟩
  rw [hc] at HZ hcap hcap2
  have HS0 : Aside0 (St B w (w.alloc (.cells (Builtin.zeroCells #[Value.int .u8 0] (s.size + 2) ++ Builtin.zeroCells #[Value.int .u8 0] (c - (s.size + 2))) 5)).drew (.slice (some ⟨B, 0, none⟩) 0 c) []) := ⟨by
    refine ⟨?_, ?_, by simp; omega⟩
    · have h := World.ownsRow_made (base := B) (e := 5) (size := 1) w (Builtin.zeroCells #[Value.int .u8 0] (s.size + 2) ++ Builtin.zeroCells #[Value.int .u8 0] (c - (s.size + 2))) c (by simp [hB]) hcap2 (by simp [Builtin.zeroCells]; omega)
      rw [hB] at h
      exact h.drew
    · exact pw_below_drewN ((Below.refl B w).alloc (by omega) _) 1⟩
  clear hE hT hU hs hi0 hz0 hz1 hz2 hL g1 g2 g3 hcap hcap2 hc hB
  go_enter Tryz.func32, Tryz.ntmps32
  go_upto_region 2 with (at_builtin; refine Lib.wpList_append_run _ rfl _ _ _ _ rfl _ _ rfl rfl _ _ HZ.out ?_)
  clear HZ
  obtain ⟨W1, hW1⟩ : ∃ W1, (w.alloc (.cells (Builtin.zeroCells #[Value.int .u8 0] (s.size + 2) ++ Builtin.zeroCells #[Value.int .u8 0] (c - (s.size + 2))) 5)).drew = W1 := ⟨_, rfl⟩
  rw [hW1] at HS0 ⊢
  clear hW1
  have HO0 := HS0
  have HLen : Aside0 (([] : List Int).length ≤ 30001) := ⟨by simp⟩
  clear HS0
  have z0 : s.size + 2 - s.size - 2 = 0 := by omega
  have z1 : (s.size : Int) + 2 - (s.size : Int) - 2 = 0 := by omega
  go_wp2_with (at_builtin; refine app_lit B rfl (.tmp 20) (.tmp 21) 53 5 rfl Tryz.underlying53 info5 (.slice (some ⟨B, 0, none⟩) 0 c) ([]) [34] rfl rfl HO0.out.1 HO0.out.2.1 HO0.out.2.2 (by have := HLen.out; first | omega | (simp; done) | (simp; omega)) ?_; intro v1 w1 ho hb hB1; have HO1 := Aside0.mk (show St B w w1 v1 ([] ++ [34]) from ⟨ho, hb, hB1⟩); clear ho hb hB1)
  clear HO0 HLen z0 z1
  have hz9 : (0 : Int) ≤ 0 := Int.le_refl _
  go_loopg [0, 5] s.size (fun kq x0 x5 wr => ∃ (i : Int) (xs l' : List Int), x5 = .int .i64 i ∧ Aside0 (0 ≤ i ∧ i ≤ (s.size : Int) ∧ (kq : Int) = (s.size : Int) - i) ∧ Aside0 (Enc s i l' ∧ 34 :: l = xs ++ l') ∧ Aside0 (St B w wr x0 xs))
  case atStart => exact ⟨0, [34], l, rfl, ⟨by omega⟩, ⟨HE.out, rfl⟩, HO1⟩
  case round =>
    clear HE HO1
    obtain ⟨i, xs, l', rfl, HI, HEE, HO0⟩ := hrel
    have HLen : Aside0 (xs.length ≤ 30001) := ⟨by have h1 := HLL.out; have h2 := congrArg List.length HEE.out.2; simp at h2; omega⟩
    have p1 : (0 : Int) ≤ i := HI.out.1
    by_cases hlt : i < (s.size : Int)
    · have c1 : decide (i < (s.size : Int)) = true := decide_eq_true hlt
      have hx2 := bt_at s i
      have hb := bt_range s i
      have q1 : (i < (s.size : Int)) = True := eq_true hlt
      have p4 : i ≤ 5000 := by have := HS.out; omega
      have HX : Aside0 (0 ≤ bt s i ∧ bt s i < 256) := ⟨by omega⟩
      obtain ⟨hE1, hE2⟩ := HEE.out
      cases hE1 with
      | nil h => exact absurd h (by omega)
      | cons r n l2 h0 hch h1 ht =>
      have hp := hch.pos
      have HN := Aside0.mk (And.intro hp (And.intro h1 (And.intro hch ht)))
      have HE2 := Aside0.mk hE2
      have HN1 : Aside0 (bt s i < 128 → n = 1) := ⟨by intro h; rcases hch with h | h | h | h <;> omega⟩
      clear hE2 HEE
      by_cases c32 : bt s i < 32
      · have d32 : decide (bt s i < 32) = true := decide_eq_true c32
        by_cases k8 : bt s i = 8
        · have K32 := Aside0.mk c32
          have K8 := Aside0.mk k8
          have f8 : (bt s i == 8) = true := beq_iff_eq.mpr k8
          obtain rfl : n = 1 := HN1.out (by omega)
          have HP := Aside0.mk (show piece s i r 1 = [92, 98] by unfold piece; rw [if_pos K32.out, if_pos K8.out])
          clear hch ht h0 h1 hp hb c32 hlt k8
          go_wp2_with (first | (at_builtin; refine app_lit B rfl (.tmp 33) (.tmp 34) 53 5 rfl Tryz.underlying53 info5 u0 (xs) [92] rfl rfl HO0.out.1 HO0.out.2.1 HO0.out.2.2 (by have := HLen.out; first | omega | (simp; done) | (simp; omega)) ?_; intro v1 w1 ho hb hB1; have HO1 := Aside0.mk (show St B w w1 v1 (xs ++ [92]) from ⟨ho, hb, hB1⟩); clear ho hb hB1) | (at_builtin; refine app_lit B rfl (.tmp 50) (.tmp 51) 53 5 rfl Tryz.underlying53 info5 v1 (xs ++ [92]) [98] rfl rfl HO1.out.1 HO1.out.2.1 HO1.out.2.2 (by have := HLen.out; first | omega | (simp; done) | (simp; omega)) ?_; intro v2 w2 ho hb hB1; have HO2 := Aside0.mk (show St B w w2 v2 (xs ++ [92] ++ [98]) from ⟨ho, hb, hB1⟩); clear ho hb hB1))
          go_roundg ((s.size : Int) - (i + 1)).toNat
          case measure => have := HI.out; have := HN.out; omega
          case rel => exact ⟨i + 1, xs ++ piece s i r 1, l2, (by first | rfl | (congr 1; have := HN.out; omega)), ⟨by have := HI.out; have := HN.out; omega⟩, ⟨HN.out.2.2.2, by rw [HE2.out, List.append_assoc]⟩, ⟨by rw [HP.out]; have h := HO2.out; first | exact h | simpa only [List.append_assoc, List.cons_append, List.nil_append] using h⟩⟩
        by_cases k12 : bt s i = 12
        · have K32 := Aside0.mk c32
          have K8 := Aside0.mk k8
          have K12 := Aside0.mk k12
          have f8 : (bt s i == 8) = false := beq_eq_false_iff_ne.mpr k8
          have f12 : (bt s i == 12) = true := beq_iff_eq.mpr k12
          obtain rfl : n = 1 := HN1.out (by omega)
          have HP := Aside0.mk (show piece s i r 1 = [92, 102] by unfold piece; rw [if_pos K32.out, if_neg K8.out, if_pos K12.out])
          clear hch ht h0 h1 hp hb c32 hlt k8 k12
          go_wp2_with (first | (at_builtin; refine app_lit B rfl (.tmp 33) (.tmp 34) 53 5 rfl Tryz.underlying53 info5 u0 (xs) [92] rfl rfl HO0.out.1 HO0.out.2.1 HO0.out.2.2 (by have := HLen.out; first | omega | (simp; done) | (simp; omega)) ?_; intro v1 w1 ho hb hB1; have HO1 := Aside0.mk (show St B w w1 v1 (xs ++ [92]) from ⟨ho, hb, hB1⟩); clear ho hb hB1) | (at_builtin; refine app_lit B rfl (.tmp 55) (.tmp 56) 53 5 rfl Tryz.underlying53 info5 v1 (xs ++ [92]) [102] rfl rfl HO1.out.1 HO1.out.2.1 HO1.out.2.2 (by have := HLen.out; first | omega | (simp; done) | (simp; omega)) ?_; intro v2 w2 ho hb hB1; have HO2 := Aside0.mk (show St B w w2 v2 (xs ++ [92] ++ [102]) from ⟨ho, hb, hB1⟩); clear ho hb hB1))
          go_roundg ((s.size : Int) - (i + 1)).toNat
          case measure => have := HI.out; have := HN.out; omega
          case rel => exact ⟨i + 1, xs ++ piece s i r 1, l2, (by first | rfl | (congr 1; have := HN.out; omega)), ⟨by have := HI.out; have := HN.out; omega⟩, ⟨HN.out.2.2.2, by rw [HE2.out, List.append_assoc]⟩, ⟨by rw [HP.out]; have h := HO2.out; first | exact h | simpa only [List.append_assoc, List.cons_append, List.nil_append] using h⟩⟩
        by_cases k10 : bt s i = 10
        · have K32 := Aside0.mk c32
          have K8 := Aside0.mk k8
          have K12 := Aside0.mk k12
          have K10 := Aside0.mk k10
          have f8 : (bt s i == 8) = false := beq_eq_false_iff_ne.mpr k8
          have f12 : (bt s i == 12) = false := beq_eq_false_iff_ne.mpr k12
          have f10 : (bt s i == 10) = true := beq_iff_eq.mpr k10
          obtain rfl : n = 1 := HN1.out (by omega)
          have HP := Aside0.mk (show piece s i r 1 = [92, 110] by unfold piece; rw [if_pos K32.out, if_neg K8.out, if_neg K12.out, if_pos K10.out])
          clear hch ht h0 h1 hp hb c32 hlt k8 k12 k10
          go_wp2_with (first | (at_builtin; refine app_lit B rfl (.tmp 33) (.tmp 34) 53 5 rfl Tryz.underlying53 info5 u0 (xs) [92] rfl rfl HO0.out.1 HO0.out.2.1 HO0.out.2.2 (by have := HLen.out; first | omega | (simp; done) | (simp; omega)) ?_; intro v1 w1 ho hb hB1; have HO1 := Aside0.mk (show St B w w1 v1 (xs ++ [92]) from ⟨ho, hb, hB1⟩); clear ho hb hB1) | (at_builtin; refine app_lit B rfl (.tmp 60) (.tmp 61) 53 5 rfl Tryz.underlying53 info5 v1 (xs ++ [92]) [110] rfl rfl HO1.out.1 HO1.out.2.1 HO1.out.2.2 (by have := HLen.out; first | omega | (simp; done) | (simp; omega)) ?_; intro v2 w2 ho hb hB1; have HO2 := Aside0.mk (show St B w w2 v2 (xs ++ [92] ++ [110]) from ⟨ho, hb, hB1⟩); clear ho hb hB1))
          go_roundg ((s.size : Int) - (i + 1)).toNat
          case measure => have := HI.out; have := HN.out; omega
          case rel => exact ⟨i + 1, xs ++ piece s i r 1, l2, (by first | rfl | (congr 1; have := HN.out; omega)), ⟨by have := HI.out; have := HN.out; omega⟩, ⟨HN.out.2.2.2, by rw [HE2.out, List.append_assoc]⟩, ⟨by rw [HP.out]; have h := HO2.out; first | exact h | simpa only [List.append_assoc, List.cons_append, List.nil_append] using h⟩⟩
        by_cases k13 : bt s i = 13
        · have K32 := Aside0.mk c32
          have K8 := Aside0.mk k8
          have K12 := Aside0.mk k12
          have K10 := Aside0.mk k10
          have K13 := Aside0.mk k13
          have f8 : (bt s i == 8) = false := beq_eq_false_iff_ne.mpr k8
          have f12 : (bt s i == 12) = false := beq_eq_false_iff_ne.mpr k12
          have f10 : (bt s i == 10) = false := beq_eq_false_iff_ne.mpr k10
          have f13 : (bt s i == 13) = true := beq_iff_eq.mpr k13
          obtain rfl : n = 1 := HN1.out (by omega)
          have HP := Aside0.mk (show piece s i r 1 = [92, 114] by unfold piece; rw [if_pos K32.out, if_neg K8.out, if_neg K12.out, if_neg K10.out, if_pos K13.out])
          clear hch ht h0 h1 hp hb c32 hlt k8 k12 k10 k13
          go_wp2_with (first | (at_builtin; refine app_lit B rfl (.tmp 33) (.tmp 34) 53 5 rfl Tryz.underlying53 info5 u0 (xs) [92] rfl rfl HO0.out.1 HO0.out.2.1 HO0.out.2.2 (by have := HLen.out; first | omega | (simp; done) | (simp; omega)) ?_; intro v1 w1 ho hb hB1; have HO1 := Aside0.mk (show St B w w1 v1 (xs ++ [92]) from ⟨ho, hb, hB1⟩); clear ho hb hB1) | (at_builtin; refine app_lit B rfl (.tmp 65) (.tmp 66) 53 5 rfl Tryz.underlying53 info5 v1 (xs ++ [92]) [114] rfl rfl HO1.out.1 HO1.out.2.1 HO1.out.2.2 (by have := HLen.out; first | omega | (simp; done) | (simp; omega)) ?_; intro v2 w2 ho hb hB1; have HO2 := Aside0.mk (show St B w w2 v2 (xs ++ [92] ++ [114]) from ⟨ho, hb, hB1⟩); clear ho hb hB1))
          go_roundg ((s.size : Int) - (i + 1)).toNat
          case measure => have := HI.out; have := HN.out; omega
          case rel => exact ⟨i + 1, xs ++ piece s i r 1, l2, (by first | rfl | (congr 1; have := HN.out; omega)), ⟨by have := HI.out; have := HN.out; omega⟩, ⟨HN.out.2.2.2, by rw [HE2.out, List.append_assoc]⟩, ⟨by rw [HP.out]; have h := HO2.out; first | exact h | simpa only [List.append_assoc, List.cons_append, List.nil_append] using h⟩⟩
        by_cases k9 : bt s i = 9
        · have K32 := Aside0.mk c32
          have K8 := Aside0.mk k8
          have K12 := Aside0.mk k12
          have K10 := Aside0.mk k10
          have K13 := Aside0.mk k13
          have K9 := Aside0.mk k9
          have f8 : (bt s i == 8) = false := beq_eq_false_iff_ne.mpr k8
          have f12 : (bt s i == 12) = false := beq_eq_false_iff_ne.mpr k12
          have f10 : (bt s i == 10) = false := beq_eq_false_iff_ne.mpr k10
          have f13 : (bt s i == 13) = false := beq_eq_false_iff_ne.mpr k13
          have f9 : (bt s i == 9) = true := beq_iff_eq.mpr k9
          obtain rfl : n = 1 := HN1.out (by omega)
          have HP := Aside0.mk (show piece s i r 1 = [92, 116] by unfold piece; rw [if_pos K32.out, if_neg K8.out, if_neg K12.out, if_neg K10.out, if_neg K13.out, if_pos K9.out])
          clear hch ht h0 h1 hp hb c32 hlt k8 k12 k10 k13 k9
          go_wp2_with (first | (at_builtin; refine app_lit B rfl (.tmp 33) (.tmp 34) 53 5 rfl Tryz.underlying53 info5 u0 (xs) [92] rfl rfl HO0.out.1 HO0.out.2.1 HO0.out.2.2 (by have := HLen.out; first | omega | (simp; done) | (simp; omega)) ?_; intro v1 w1 ho hb hB1; have HO1 := Aside0.mk (show St B w w1 v1 (xs ++ [92]) from ⟨ho, hb, hB1⟩); clear ho hb hB1) | (at_builtin; refine app_lit B rfl (.tmp 70) (.tmp 71) 53 5 rfl Tryz.underlying53 info5 v1 (xs ++ [92]) [116] rfl rfl HO1.out.1 HO1.out.2.1 HO1.out.2.2 (by have := HLen.out; first | omega | (simp; done) | (simp; omega)) ?_; intro v2 w2 ho hb hB1; have HO2 := Aside0.mk (show St B w w2 v2 (xs ++ [92] ++ [116]) from ⟨ho, hb, hB1⟩); clear ho hb hB1))
          go_roundg ((s.size : Int) - (i + 1)).toNat
          case measure => have := HI.out; have := HN.out; omega
          case rel => exact ⟨i + 1, xs ++ piece s i r 1, l2, (by first | rfl | (congr 1; have := HN.out; omega)), ⟨by have := HI.out; have := HN.out; omega⟩, ⟨HN.out.2.2.2, by rw [HE2.out, List.append_assoc]⟩, ⟨by rw [HP.out]; have h := HO2.out; first | exact h | simpa only [List.append_assoc, List.cons_append, List.nil_append] using h⟩⟩
        have K32 := Aside0.mk c32
        have K8 := Aside0.mk k8
        have K12 := Aside0.mk k12
        have K10 := Aside0.mk k10
        have K13 := Aside0.mk k13
        have K9 := Aside0.mk k9
        have f8 : (bt s i == 8) = false := beq_eq_false_iff_ne.mpr k8
        have f12 : (bt s i == 12) = false := beq_eq_false_iff_ne.mpr k12
        have f10 : (bt s i == 10) = false := beq_eq_false_iff_ne.mpr k10
        have f13 : (bt s i == 13) = false := beq_eq_false_iff_ne.mpr k13
        have f9 : (bt s i == 9) = false := beq_eq_false_iff_ne.mpr k9
        have u16 : IntKind.u16.wrap (bt s i) = bt s i := by simp [IntKind.wrap, IntKind.signed, IntKind.bits]; omega
        obtain rfl : n = 1 := HN1.out (by omega)
        have HP := Aside0.mk (show piece s i r 1 = [92, 117, 48, 48, hxc (bt s i / 16), hxc (bt s i % 16)] by unfold piece; rw [if_pos K32.out, if_neg K8.out, if_neg K12.out, if_neg K10.out, if_neg K13.out, if_neg K9.out])
        clear hch ht h0 h1 hp hb c32 hlt k8 k12 k10 k13 k9
        go_wp2_with (first | (at_builtin; refine app_lit B rfl (.tmp 33) (.tmp 34) 53 5 rfl Tryz.underlying53 info5 u0 (xs) [92] rfl rfl HO0.out.1 HO0.out.2.1 HO0.out.2.2 (by have := HLen.out; first | omega | (simp; done) | (simp; omega)) ?_; intro v1 w1 ho hb hB1; have HO1 := Aside0.mk (show St B w w1 v1 (xs ++ [92]) from ⟨ho, hb, hB1⟩); clear ho hb hB1) | (at_builtin; refine app_lit B rfl (.tmp 39) (.tmp 40) 53 5 rfl Tryz.underlying53 info5 v1 (xs ++ [92]) [117] rfl rfl HO1.out.1 HO1.out.2.1 HO1.out.2.2 (by have := HLen.out; first | omega | (simp; done) | (simp; omega)) ?_; intro v2 w2 ho hb hB1; have HO2 := Aside0.mk (show St B w w2 v2 (xs ++ [92] ++ [117]) from ⟨ho, hb, hB1⟩); clear ho hb hB1) | (go_at_call 47; refine (hex16_walk B _ (xs ++ [92] ++ [117]) (bt s i) w _ HX.out.1 HX.out.2 HO2.out.1 HO2.out.2.1 HO2.out.2.2 (HT.out.below HO2.out.2.1 HG.out) HG.out (by have := HLen.out; first | omega | (simp; done) | (simp; omega))).mono ?_; rintro e w3 ⟨v3, rfl, ho, hb, hB1⟩; have HO3 := Aside0.mk (show St B w w3 v3 (xs ++ [92] ++ [117] ++ [48, 48, hxc (bt s i / 16), hxc (bt s i % 16)]) from ⟨ho, hb, hB1⟩); clear ho hb hB1))
        go_roundg ((s.size : Int) - (i + 1)).toNat
        case measure => have := HI.out; have := HN.out; omega
        case rel => exact ⟨i + 1, xs ++ piece s i r 1, l2, (by first | rfl | (congr 1; have := HN.out; omega)), ⟨by have := HI.out; have := HN.out; omega⟩, ⟨HN.out.2.2.2, by rw [HE2.out, List.append_assoc]⟩, ⟨by rw [HP.out]; have h := HO3.out; first | exact h | simpa only [List.append_assoc, List.cons_append, List.nil_append] using h⟩⟩
      have d32 : decide (bt s i < 32) = false := decide_eq_false c32
      have K32 := Aside0.mk c32
      by_cases c3 : bt s i = 62 ∨ bt s i = 60 ∨ bt s i = 38
      · have K3 := Aside0.mk c3
        have u16 : IntKind.u16.wrap (bt s i) = bt s i := by simp [IntKind.wrap, IntKind.signed, IntKind.bits]; omega
        obtain rfl : n = 1 := HN1.out (by omega)
        have HP := Aside0.mk (show piece s i r 1 = [92, 117, 48, 48, hxc (bt s i / 16), hxc (bt s i % 16)] by unfold piece; rw [if_neg K32.out, if_pos K3.out])
        clear hch ht h0 h1 hp hb c32 hlt
        rcases c3 with c3 | c3 | c3
        · have t62 : (bt s i == 62) = true := beq_iff_eq.mpr c3
          clear c3
          go_wp2_with (first | (at_builtin; refine app_lit B rfl (.tmp 90) (.tmp 91) 53 5 rfl Tryz.underlying53 info5 u0 (xs) [92, 117] rfl rfl HO0.out.1 HO0.out.2.1 HO0.out.2.2 (by have := HLen.out; first | omega | (simp; done) | (simp; omega)) ?_; intro v1 w1 ho hb hB1; have HO1 := Aside0.mk (show St B w w1 v1 (xs ++ [92, 117]) from ⟨ho, hb, hB1⟩); clear ho hb hB1) | (go_at_call 47; refine (hex16_walk B _ (xs ++ [92, 117]) (bt s i) w _ HX.out.1 HX.out.2 HO1.out.1 HO1.out.2.1 HO1.out.2.2 (HT.out.below HO1.out.2.1 HG.out) HG.out (by have := HLen.out; first | omega | (simp; done) | (simp; omega))).mono ?_; rintro e w2 ⟨v2, rfl, ho, hb, hB1⟩; have HO2 := Aside0.mk (show St B w w2 v2 (xs ++ [92, 117] ++ [48, 48, hxc (bt s i / 16), hxc (bt s i % 16)]) from ⟨ho, hb, hB1⟩); clear ho hb hB1) | go_in)
          go_roundg ((s.size : Int) - (i + 1)).toNat
          case measure => have := HI.out; have := HN.out; omega
          case rel => exact ⟨i + 1, xs ++ piece s i r 1, l2, (by first | rfl | (congr 1; have := HN.out; omega)), ⟨by have := HI.out; have := HN.out; omega⟩, ⟨HN.out.2.2.2, by rw [HE2.out, List.append_assoc]⟩, ⟨by rw [HP.out]; have h := HO2.out; first | exact h | simpa only [List.append_assoc, List.cons_append, List.nil_append] using h⟩⟩
        · have t62 : (bt s i == 62) = false := beq_eq_false_iff_ne.mpr (by omega)
          have t60 : (bt s i == 60) = true := beq_iff_eq.mpr c3
          clear c3
          go_wp2_with (first | (at_builtin; refine app_lit B rfl (.tmp 90) (.tmp 91) 53 5 rfl Tryz.underlying53 info5 u0 (xs) [92, 117] rfl rfl HO0.out.1 HO0.out.2.1 HO0.out.2.2 (by have := HLen.out; first | omega | (simp; done) | (simp; omega)) ?_; intro v1 w1 ho hb hB1; have HO1 := Aside0.mk (show St B w w1 v1 (xs ++ [92, 117]) from ⟨ho, hb, hB1⟩); clear ho hb hB1) | (go_at_call 47; refine (hex16_walk B _ (xs ++ [92, 117]) (bt s i) w _ HX.out.1 HX.out.2 HO1.out.1 HO1.out.2.1 HO1.out.2.2 (HT.out.below HO1.out.2.1 HG.out) HG.out (by have := HLen.out; first | omega | (simp; done) | (simp; omega))).mono ?_; rintro e w2 ⟨v2, rfl, ho, hb, hB1⟩; have HO2 := Aside0.mk (show St B w w2 v2 (xs ++ [92, 117] ++ [48, 48, hxc (bt s i / 16), hxc (bt s i % 16)]) from ⟨ho, hb, hB1⟩); clear ho hb hB1) | go_in)
          go_roundg ((s.size : Int) - (i + 1)).toNat
          case measure => have := HI.out; have := HN.out; omega
          case rel => exact ⟨i + 1, xs ++ piece s i r 1, l2, (by first | rfl | (congr 1; have := HN.out; omega)), ⟨by have := HI.out; have := HN.out; omega⟩, ⟨HN.out.2.2.2, by rw [HE2.out, List.append_assoc]⟩, ⟨by rw [HP.out]; have h := HO2.out; first | exact h | simpa only [List.append_assoc, List.cons_append, List.nil_append] using h⟩⟩
        · have t62 : (bt s i == 62) = false := beq_eq_false_iff_ne.mpr (by omega)
          have t60 : (bt s i == 60) = false := beq_eq_false_iff_ne.mpr (by omega)
          have t38 : (bt s i == 38) = true := beq_iff_eq.mpr c3
          clear c3
          go_wp2_with (first | (at_builtin; refine app_lit B rfl (.tmp 90) (.tmp 91) 53 5 rfl Tryz.underlying53 info5 u0 (xs) [92, 117] rfl rfl HO0.out.1 HO0.out.2.1 HO0.out.2.2 (by have := HLen.out; first | omega | (simp; done) | (simp; omega)) ?_; intro v1 w1 ho hb hB1; have HO1 := Aside0.mk (show St B w w1 v1 (xs ++ [92, 117]) from ⟨ho, hb, hB1⟩); clear ho hb hB1) | (go_at_call 47; refine (hex16_walk B _ (xs ++ [92, 117]) (bt s i) w _ HX.out.1 HX.out.2 HO1.out.1 HO1.out.2.1 HO1.out.2.2 (HT.out.below HO1.out.2.1 HG.out) HG.out (by have := HLen.out; first | omega | (simp; done) | (simp; omega))).mono ?_; rintro e w2 ⟨v2, rfl, ho, hb, hB1⟩; have HO2 := Aside0.mk (show St B w w2 v2 (xs ++ [92, 117] ++ [48, 48, hxc (bt s i / 16), hxc (bt s i % 16)]) from ⟨ho, hb, hB1⟩); clear ho hb hB1) | go_in)
          go_roundg ((s.size : Int) - (i + 1)).toNat
          case measure => have := HI.out; have := HN.out; omega
          case rel => exact ⟨i + 1, xs ++ piece s i r 1, l2, (by first | rfl | (congr 1; have := HN.out; omega)), ⟨by have := HI.out; have := HN.out; omega⟩, ⟨HN.out.2.2.2, by rw [HE2.out, List.append_assoc]⟩, ⟨by rw [HP.out]; have h := HO2.out; first | exact h | simpa only [List.append_assoc, List.cons_append, List.nil_append] using h⟩⟩
      have K3 := Aside0.mk c3
      have t62 : (bt s i == 62) = false := beq_eq_false_iff_ne.mpr (by omega)
      have t60 : (bt s i == 60) = false := beq_eq_false_iff_ne.mpr (by omega)
      have t38 : (bt s i == 38) = false := beq_eq_false_iff_ne.mpr (by omega)
      by_cases c92 : bt s i = 92
      · have K92 := Aside0.mk c92
        have t92 : (bt s i == 92) = true := beq_iff_eq.mpr c92
        obtain rfl : n = 1 := HN1.out (by omega)
        have HP := Aside0.mk (show piece s i r 1 = [92, 92] by unfold piece; rw [if_neg K32.out, if_neg K3.out, if_pos K92.out])
        clear hch ht h0 h1 hp hb c32 c3 c92 hlt
        go_wp2_with (at_builtin; refine app_lit B rfl (.tmp 109) (.tmp 110) 53 5 rfl Tryz.underlying53 info5 u0 (xs) [92, 92] rfl rfl HO0.out.1 HO0.out.2.1 HO0.out.2.2 (by have := HLen.out; first | omega | (simp; done) | (simp; omega)) ?_; intro v1 w1 ho hb hB1; have HO1 := Aside0.mk (show St B w w1 v1 (xs ++ [92, 92]) from ⟨ho, hb, hB1⟩); clear ho hb hB1)
        go_roundg ((s.size : Int) - (i + 1)).toNat
        case measure => have := HI.out; have := HN.out; omega
        case rel => exact ⟨i + 1, xs ++ piece s i r 1, l2, (by first | rfl | (congr 1; have := HN.out; omega)), ⟨by have := HI.out; have := HN.out; omega⟩, ⟨HN.out.2.2.2, by rw [HE2.out, List.append_assoc]⟩, ⟨by rw [HP.out]; have h := HO1.out; first | exact h | simpa only [List.append_assoc, List.cons_append, List.nil_append] using h⟩⟩
      have K92 := Aside0.mk c92
      have t92 : (bt s i == 92) = false := beq_eq_false_iff_ne.mpr c92
      by_cases c34 : bt s i = 34
      · have K34 := Aside0.mk c34
        have t34 : (bt s i == 34) = true := beq_iff_eq.mpr c34
        obtain rfl : n = 1 := HN1.out (by omega)
        have HP := Aside0.mk (show piece s i r 1 = [92, 34] by unfold piece; rw [if_neg K32.out, if_neg K3.out, if_neg K92.out, if_pos K34.out])
        clear hch ht h0 h1 hp hb c32 c3 c92 c34 hlt
        go_wp2_with (at_builtin; refine app_lit B rfl (.tmp 116) (.tmp 117) 53 5 rfl Tryz.underlying53 info5 u0 (xs) [92, 34] rfl rfl HO0.out.1 HO0.out.2.1 HO0.out.2.2 (by have := HLen.out; first | omega | (simp; done) | (simp; omega)) ?_; intro v1 w1 ho hb hB1; have HO1 := Aside0.mk (show St B w w1 v1 (xs ++ [92, 34]) from ⟨ho, hb, hB1⟩); clear ho hb hB1)
        go_roundg ((s.size : Int) - (i + 1)).toNat
        case measure => have := HI.out; have := HN.out; omega
        case rel => exact ⟨i + 1, xs ++ piece s i r 1, l2, (by first | rfl | (congr 1; have := HN.out; omega)), ⟨by have := HI.out; have := HN.out; omega⟩, ⟨HN.out.2.2.2, by rw [HE2.out, List.append_assoc]⟩, ⟨by rw [HP.out]; have h := HO1.out; first | exact h | simpa only [List.append_assoc, List.cons_append, List.nil_append] using h⟩⟩
      have K34 := Aside0.mk c34
      have t34 : (bt s i == 34) = false := beq_eq_false_iff_ne.mpr c34
      by_cases c127 : bt s i > 127
      · have K127 := Aside0.mk c127
        have t127 : decide (127 < bt s i) = true := decide_eq_true c127
        have hn2 : 2 ≤ n := by rcases hch with h | h | h | h <;> omega
        have hr0 : 128 ≤ r ∧ r ≤ 1114111 := by rcases hch with h | h | h | h <;> omega
        have n0 : (n == 0) = false := beq_eq_false_iff_ne.mpr (by omega)
        have n1 : (n == 1) = false := beq_eq_false_iff_ne.mpr (by omega)
        have hd := decode_char p1 hch h1
        have HSz : Aside0 ((s.extract i.toNat (i + n).toNat).size ≤ 4) := ⟨by rw [ByteArray.size_extract]; omega⟩
        have HBX := Aside0.mk (bytes_ext p1 (by omega) h1)
        have a1 : IntKind.i64.wrap (i + n) = i + n := by simp [IntKind.wrap, IntKind.signed, IntKind.bits]; have := HS.out; omega
        have a2 : IntKind.i64.wrap (i + n - 1) = i + n - 1 := by simp [IntKind.wrap, IntKind.signed, IntKind.bits]; have := HS.out; omega
        have a3 : IntKind.i64.wrap (i + n - 1 + 1) = i + n := by simp [IntKind.wrap, IntKind.signed, IntKind.bits]; have := HS.out; omega
        have b1 : i ≤ i + n := by omega
        have b2 : i + n ≤ (s.size : Int) := h1
        have b3 : 0 ≤ i + n := by omega
        have b4 : i ≤ (s.size : Int) := by omega
        have b5 : 0 ≤ n := by omega
        have b6 : n ≤ 4 := hp.2
        have b7 : i ≤ 5000 := p4
        have dec : ∀ W, St B w W u0 xs → Calls Tryz.prog 49 #[.string (s.extract i.toNat s.size)] W fun e w' => e = .returned (.tuple #[.int .i32 r, .int .i64 n]) ∧ St B w w' u0 xs := by
          intro W hW
          have h := Sh.utf8_DecodeRuneInString (s.extract i.toNat s.size) W (tabs_below HU.out hW.2.1 HG2.out.1 HG2.out.2)
          rw [hd] at h
          refine h.mono ?_
          rintro e w' ⟨rfl, hb⟩
          refine ⟨?_, own_move hW.1 (fun k hk => hb.block k (hW.1.lt k hk).2), below_then hW.2.1 hW.2.2 hb, Nat.le_trans hW.2.2 hb.size⟩
          have z1 : ((r.toNat : Nat) : Int) = r := by omega
          have z2 : ((n.toNat : Nat) : Int) = n := by omega
          simp only [z1, z2]
        have HDec := Aside0.mk dec
        clear dec hd
        by_cases c82 : r = 8232 ∨ r = 8233
        · rcases c82 with rfl | rfl
          · have HP := Aside0.mk (show piece s i 8232 n = [92, 117, 50, 48, 50, 56] by unfold piece; rw [if_neg K32.out, if_neg K3.out, if_neg K92.out, if_neg K34.out, if_pos K127.out, if_pos (.inl rfl)]; rfl)
            have hbs : bytesOf (⟨#[92, 117, 50, 48, 50]⟩ : ByteArray) = [92, 117, 50, 48, 50] := by decide
            have HBS := Aside0.mk hbs
            have m15 : bits .and .i32 8232 15 = 8 := by decide
            clear hbs hch ht h0 h1 hp hb c32 c3 c92 c34 c127 hlt hr0
            go_wp2_with (first | (go_at_call 49; refine (HDec.out _ HO0.out).mono ?_; rintro e w1 ⟨rfl, hst⟩; have HO1 := Aside0.mk hst; clear hst) | (at_builtin; refine app_str B rfl (.tmp 146) (.const (.string ⟨#[92, 117, 50, 48, 50]⟩)) 53 9 5 rfl Tryz.underlying53 Tryz.underlying9 info5 u0 (xs) (⟨#[92, 117, 50, 48, 50]⟩) rfl rfl HO1.out.1 HO1.out.2.1 HO1.out.2.2 (by have := HLen.out; have : (⟨#[92, 117, 50, 48, 50]⟩ : ByteArray).size = 5 := rfl; omega) ?_; intro v2 w2 ho hb hB1; have HO2 := Aside0.mk (show St B w w2 v2 (xs ++ bytesOf (⟨#[92, 117, 50, 48, 50]⟩)) from ⟨ho, hb, hB1⟩); clear ho hb hB1; have t8 : w2.cell? ⟨0, 8, none⟩ = some (.int .u8 56) := HT.out.below HO2.out.2.1 HG.out 8 (by decide)) | (at_builtin; refine app_lit B rfl (.tmp 148) (.tmp 153) 53 5 rfl Tryz.underlying53 info5 v2 (xs ++ bytesOf ⟨#[92, 117, 50, 48, 50]⟩) [56] rfl rfl HO2.out.1 HO2.out.2.1 HO2.out.2.2 (by have := HLen.out; rw [HBS.out]; simp; omega) ?_; intro v3 w3 ho hb hB1; have HO3 := Aside0.mk (show St B w w3 v3 (xs ++ bytesOf ⟨#[92, 117, 50, 48, 50]⟩ ++ [56]) from ⟨ho, hb, hB1⟩); clear ho hb hB1))
            go_roundg ((s.size : Int) - (i + n)).toNat
            case measure => have := HI.out; have := HN.out; omega
            case rel => exact ⟨i + n, xs ++ piece s i 8232 n, l2, (by first | rfl | (congr 1; have := HN.out; omega)), ⟨by have := HI.out; have := HN.out; omega⟩, ⟨HN.out.2.2.2, by rw [HE2.out, List.append_assoc]⟩, ⟨by rw [HP.out]; have h := HO3.out; rw [HBS.out] at h; first | exact h | simpa only [List.append_assoc, List.cons_append, List.nil_append] using h⟩⟩
          · have HP := Aside0.mk (show piece s i 8233 n = [92, 117, 50, 48, 50, 57] by unfold piece; rw [if_neg K32.out, if_neg K3.out, if_neg K92.out, if_neg K34.out, if_pos K127.out, if_pos (.inr rfl)]; rfl)
            have hbs : bytesOf (⟨#[92, 117, 50, 48, 50]⟩ : ByteArray) = [92, 117, 50, 48, 50] := by decide
            have HBS := Aside0.mk hbs
            have m15 : bits .and .i32 8233 15 = 9 := by decide
            clear hbs hch ht h0 h1 hp hb c32 c3 c92 c34 c127 hlt hr0
            go_wp2_with (first | (go_at_call 49; refine (HDec.out _ HO0.out).mono ?_; rintro e w1 ⟨rfl, hst⟩; have HO1 := Aside0.mk hst; clear hst) | (at_builtin; refine app_str B rfl (.tmp 146) (.const (.string ⟨#[92, 117, 50, 48, 50]⟩)) 53 9 5 rfl Tryz.underlying53 Tryz.underlying9 info5 u0 (xs) (⟨#[92, 117, 50, 48, 50]⟩) rfl rfl HO1.out.1 HO1.out.2.1 HO1.out.2.2 (by have := HLen.out; have : (⟨#[92, 117, 50, 48, 50]⟩ : ByteArray).size = 5 := rfl; omega) ?_; intro v2 w2 ho hb hB1; have HO2 := Aside0.mk (show St B w w2 v2 (xs ++ bytesOf (⟨#[92, 117, 50, 48, 50]⟩)) from ⟨ho, hb, hB1⟩); clear ho hb hB1; have t8 : w2.cell? ⟨0, 9, none⟩ = some (.int .u8 57) := HT.out.below HO2.out.2.1 HG.out 9 (by decide)) | (at_builtin; refine app_lit B rfl (.tmp 148) (.tmp 153) 53 5 rfl Tryz.underlying53 info5 v2 (xs ++ bytesOf ⟨#[92, 117, 50, 48, 50]⟩) [57] rfl rfl HO2.out.1 HO2.out.2.1 HO2.out.2.2 (by have := HLen.out; rw [HBS.out]; simp; omega) ?_; intro v3 w3 ho hb hB1; have HO3 := Aside0.mk (show St B w w3 v3 (xs ++ bytesOf ⟨#[92, 117, 50, 48, 50]⟩ ++ [57]) from ⟨ho, hb, hB1⟩); clear ho hb hB1))
            go_roundg ((s.size : Int) - (i + n)).toNat
            case measure => have := HI.out; have := HN.out; omega
            case rel => exact ⟨i + n, xs ++ piece s i 8233 n, l2, (by first | rfl | (congr 1; have := HN.out; omega)), ⟨by have := HI.out; have := HN.out; omega⟩, ⟨HN.out.2.2.2, by rw [HE2.out, List.append_assoc]⟩, ⟨by rw [HP.out]; have h := HO3.out; rw [HBS.out] at h; first | exact h | simpa only [List.append_assoc, List.cons_append, List.nil_append] using h⟩⟩
        have HP := Aside0.mk (show piece s i r n = bytesOf (s.extract i.toNat (i + n).toNat) by rw [HBX.out]; unfold piece; rw [if_neg K32.out, if_neg K3.out, if_neg K92.out, if_neg K34.out, if_pos K127.out, if_neg c82]; rfl)
        have r82 : (r == 8232) = false := beq_eq_false_iff_ne.mpr (by omega)
        have r83 : (r == 8233) = false := beq_eq_false_iff_ne.mpr (by omega)
        clear c82 hch ht h0 h1 hp hb c32 c3 c92 c34 c127 hlt hr0
        by_cases c65 : r = 65533
        · have r65 : (r == 65533) = true := beq_iff_eq.mpr c65
          clear c65
          go_wp2_with (first | (go_at_call 49; refine (HDec.out _ HO0.out).mono ?_; rintro e w1 ⟨rfl, hst⟩; have HO1 := Aside0.mk hst; clear hst) | (at_builtin; refine app_str B rfl (.tmp 155) (.tmp 161) 53 9 5 rfl Tryz.underlying53 Tryz.underlying9 info5 u0 (xs) (s.extract i.toNat (i + n).toNat) rfl rfl HO1.out.1 HO1.out.2.1 HO1.out.2.2 (by have := HLen.out; first | (simp; omega) | (have := HSz.out; simp; omega)) ?_; intro v2 w2 ho hb hB1; have HO2 := Aside0.mk (show St B w w2 v2 (xs ++ bytesOf (s.extract i.toNat (i + n).toNat)) from ⟨ho, hb, hB1⟩); clear ho hb hB1))
          go_roundg ((s.size : Int) - (i + n)).toNat
          case measure => have := HI.out; have := HN.out; omega
          case rel => exact ⟨i + n, xs ++ piece s i r n, l2, (by first | rfl | (congr 1; have := HN.out; omega)), ⟨by have := HI.out; have := HN.out; omega⟩, ⟨HN.out.2.2.2, by rw [HE2.out, List.append_assoc]⟩, ⟨by rw [HP.out]; have h := HO2.out; first | exact h | simpa only [List.append_assoc, List.cons_append, List.nil_append] using h⟩⟩
        have r65 : (r == 65533) = false := beq_eq_false_iff_ne.mpr c65
        clear c65
        go_wp2_with (first | (go_at_call 49; refine (HDec.out _ HO0.out).mono ?_; rintro e w1 ⟨rfl, hst⟩; have HO1 := Aside0.mk hst; clear hst) | (at_builtin; refine app_str B rfl (.tmp 155) (.tmp 161) 53 9 5 rfl Tryz.underlying53 Tryz.underlying9 info5 u0 (xs) (s.extract i.toNat (i + n).toNat) rfl rfl HO1.out.1 HO1.out.2.1 HO1.out.2.2 (by have := HLen.out; first | (simp; omega) | (have := HSz.out; simp; omega)) ?_; intro v2 w2 ho hb hB1; have HO2 := Aside0.mk (show St B w w2 v2 (xs ++ bytesOf (s.extract i.toNat (i + n).toNat)) from ⟨ho, hb, hB1⟩); clear ho hb hB1))
        go_roundg ((s.size : Int) - (i + n)).toNat
        case measure => have := HI.out; have := HN.out; omega
        case rel => exact ⟨i + n, xs ++ piece s i r n, l2, (by first | rfl | (congr 1; have := HN.out; omega)), ⟨by have := HI.out; have := HN.out; omega⟩, ⟨HN.out.2.2.2, by rw [HE2.out, List.append_assoc]⟩, ⟨by rw [HP.out]; have h := HO2.out; first | exact h | simpa only [List.append_assoc, List.cons_append, List.nil_append] using h⟩⟩
      have K127 := Aside0.mk c127
      have t127 : decide (127 < bt s i) = false := decide_eq_false (by omega)
      obtain rfl : n = 1 := HN1.out (by omega)
      have HP := Aside0.mk (show piece s i r 1 = [bt s i] by unfold piece; rw [if_neg K32.out, if_neg K3.out, if_neg K92.out, if_neg K34.out, if_neg K127.out])
      clear hch ht h0 h1 hp hb c32 c3 c92 c34 c127 hlt
      go_wp2_with (at_builtin; refine app_lit B rfl (.tmp 167) (.tmp 171) 53 5 rfl Tryz.underlying53 info5 u0 (xs) [bt s i] rfl rfl HO0.out.1 HO0.out.2.1 HO0.out.2.2 (by have := HLen.out; first | omega | (simp; done) | (simp; omega)) ?_; intro v1 w1 ho hb hB1; have HO1 := Aside0.mk (show St B w w1 v1 (xs ++ [bt s i]) from ⟨ho, hb, hB1⟩); clear ho hb hB1)
      go_roundg ((s.size : Int) - (i + 1)).toNat
      case measure => have := HI.out; have := HN.out; omega
      case rel => exact ⟨i + 1, xs ++ piece s i r 1, l2, (by first | rfl | (congr 1; have := HN.out; omega)), ⟨by have := HI.out; have := HN.out; omega⟩, ⟨HN.out.2.2.2, by rw [HE2.out, List.append_assoc]⟩, ⟨by rw [HP.out]; have h := HO1.out; first | exact h | simpa only [List.append_assoc, List.cons_append, List.nil_append] using h⟩⟩
    · have c1 : decide (i < (s.size : Int)) = false := decide_eq_false hlt
      have hl : 34 :: l = xs := by
        obtain ⟨hE1, hE2⟩ := HEE.out
        cases hE1 with
        | nil _ => simpa using hE2
        | cons r n l2 h0 hch h1 ht => exact absurd h0 hlt
      have HL2 := Aside0.mk hl
      clear hl hlt HEE
      go_wp2_with (at_builtin; refine app_lit B rfl (.tmp 173) (.tmp 174) 53 5 rfl Tryz.underlying53 info5 u0 (xs) [34] rfl rfl HO0.out.1 HO0.out.2.1 HO0.out.2.2 (by have := HLen.out; first | omega | (simp; done) | (simp; omega)) ?_; intro v1 w1 ho hb hB1; have HO1 := Aside0.mk (show St B w w1 v1 (xs ++ [34]) from ⟨ho, hb, hB1⟩); clear ho hb hB1)
      go_ret
      refine ⟨v1, rfl, ?_, HO1.out.2.1⟩
      have h := HO1.out.1
      rw [← HL2.out] at h
      exact h
end Go.Proofs.YtldfejbmdonaoaaGreatDoor.Uw