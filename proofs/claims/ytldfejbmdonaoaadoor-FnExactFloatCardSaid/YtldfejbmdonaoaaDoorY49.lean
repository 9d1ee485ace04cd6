/- Joined by a program of mine from texts of this claim: Fl. -/
import Derived.Test.YtldfejbmdonaoaaDoorY45
import Derived.Test.YtldfejbmdonaoaaDoorY48
namespace Go.Proofs.YtldfejbmdonaoaaDoor.Fl
open Go.RowKit YtldfejbmdonaoaaDoorW.PrintWords YtldfejbmdonaoaaDoorW.PrintLast YtldfejbmdonaoaaDoorW.PrintMore Tp Fr At Pz Nx Gp Gv Gn Gi Wh PFnExactFloat
set_option linter.unusedVariables false
set_option linter.unusedSimpArgs false
theorem lead_of {s : ByteArray} {n : Int} (h : NumT s n) : Lead s 0 := ⟨by have := h.size; omega, Int.le_refl _, h.pos, fun q h1 h2 => by omega⟩
theorem shape_of {s : ByteArray} {n : Int} (h : NumT s n) : Shape s 0 2 (s.size : Int) := .inr (.inl ⟨rfl, h.good, h.end_.symm, fun h => by omega⟩)
theorem self_of (s : ByteArray) : s.extract (Int.toNat 0) ((s.size : Int)).toNat = s := by rw [Int.toNat_natCast]; exact Bt.extract_whole s
theorem x_of {s : ByteArray} {n : Int} (h : NumT s n) (hn : n.natAbs < 9007199254740992) {x : Nat} (hx : ExactX s x) : x = floatOfInt .f64 n := by
  obtain ⟨j, hj, hv, hs⟩ := h.is
  have h2 := hx j hj (by rw [hv]; split <;> omega) (fun e => by rw [hv, if_pos (hs.mp e)]; have := hs.mp e; omega)
  rw [h2, hv]
  by_cases c : n < 0
  · rw [if_pos (hs.mpr c), if_pos c, Int.neg_neg]
  · rw [if_neg (fun e => c (hs.mp e)), if_neg c]
theorem parse_num (s : ByteArray) (n : Int) (h : NumT s n) (hn : n.natAbs < 9007199254740992) (w : World) (hT : Tabs w w.heap.size) (hV : ErrVars w w.heap.size) :
    Calls Tryd.prog 19 #[.string s] w fun e w' => e = .returned (.agg #[.int .i64 2, .string s, .string ⟨#[]⟩, .float .f64 (floatOfInt .f64 n), .int .i64 0, .slice none 0 0]) ∧ Below w.heap.size w w' := by
  refine (parse_other s 0 2 s.size (lead_of h) (shape_of h) w hT hV).mono ?_
  rintro e w' ⟨x, rfl, hx, hb⟩
  rw [self_of] at hx ⊢
  rw [x_of h hn (hx rfl)]
  exact ⟨rfl, hb⟩
theorem impl_num (s : ByteArray) (n : Int) (h : NumT s n) (hn : n.natAbs < 9007199254740992) (w : World) (hT : Tabs w w.heap.size) (hV : ErrVars w w.heap.size) :
    Calls Tryd.prog 8 #[.string s] w fun e w' => ∃ b : ByteArray, e = .returned (.agg #[.int .i64 2, .string s, .string b, .float .f64 (floatOfInt .f64 n), .int .i64 0, .bool true]) ∧ Below w.heap.size w w' := by
  refine (impl_other s 0 2 s.size (lead_of h) (shape_of h) w hT hV).mono ?_
  rintro e w' ⟨k, a, b, c, d, rfl, ⟨rfl, rfl, rfl, hx⟩, hb⟩
  rw [self_of] at hx ⊢
  rw [x_of h hn (hx rfl)]
  exact ⟨b, rfl, hb⟩
set_option maxRecDepth 100000 in
set_option maxHeartbeats 8000000 in
theorem float_num (a b : ByteArray) (x : Nat) (d : Int) (A : Option Addr) (n m : Nat) (w : World) :
    Calls Tryd.prog 20 #[.agg #[.int .i64 2, .string a, .string b, .float .f64 x, .int .i64 d, .slice A n m]] w fun e w' => e = .returned (.float .f64 x) ∧ Below w.heap.size w w' := by
  have HB := Aside0.mk ((Below.refl w.heap.size w).alloc (Nat.le_refl _) (Obj.cells #[.int .i64 2, .string a, .string b, .float .f64 x, .int .i64 d, .slice A n m] 51))
  go_enter Tryd.func20, Tryd.ntmps20
  go_wp2
  go_ret
  exact ⟨rfl, HB.out⟩
set_option maxRecDepth 100000 in
set_option maxHeartbeats 8000000 in
theorem impl_float (s : ByteArray) (n : Int) (h : NumT s n) (hn : n.natAbs < 9007199254740992) (w : World) (hT : Tabs w w.heap.size) (hV : ErrVars w w.heap.size) :
    Calls Tryd.prog 10 #[.string s] w fun e w' => e = .returned (.float .f64 (floatOfInt .f64 n)) ∧ Below w.heap.size w w' := by
  have HP := Aside0.mk (parse_num s n h hn w hT hV)
  obtain ⟨x, hx⟩ : ∃ x, floatOfInt .f64 n = x := ⟨_, rfl⟩
  rw [hx] at HP ⊢
  clear h hn hT hV hx
  go_enter Tryd.func10, Tryd.ntmps10
  go_wp2_with fail
  refine HP.out.mono ?_
  rintro e w1 ⟨rfl, hb⟩
  have HB := Aside0.mk hb
  clear hb
  go_wp2_with fail
  refine (float_num s _ x 0 _ _ _ _).mono ?_
  rintro e w2 ⟨rfl, hb⟩
  have HB2 := Aside0.mk (below_then HB.out HB.out.size hb)
  clear hb
  go_wp2
  go_ret
  exact ⟨rfl, HB2.out⟩
theorem num_of_v (k : Int) (a b : ByteArray) (c : Nat) (d : Int) (w : World) : (Instr.field 30 (.agg #[.int .i64 k, .string a, .string b, .float .f64 c, .int .i64 d, .bool true]) 3).run Tryd.prog w = .ok (.float .f64 c) w := by kernel_rfl
set_option maxRecDepth 100000 in
set_option maxHeartbeats 8000000 in
theorem float_law (n : Int) (w : World) (hn : (Lit.int .i64 n).wf = true) (hT : Tabs w w.heap.size) (hV : ErrVars w w.heap.size) :
    Calls Tryd.prog 4 #[.int .i64 n] w fun e w' => e = .returned (.bool true) ∧ Below w.heap.size w w' := by
  obtain ⟨N, hN⟩ : ∃ N, Int.tmod n 9007199254740992 = N := ⟨_, rfl⟩
  have hb : N.natAbs < 9007199254740992 := by
    rw [← hN, Int.natAbs_tmod]
    exact Nat.mod_lt _ (by decide)
  obtain ⟨s, hs, hS⟩ := whole_text N (by omega) (by omega)
  have HS := Aside0.mk hs
  have HX := Aside0.mk (And.intro hS hb)
  have HT := Aside0.mk hT
  have HV := Aside0.mk hV
  have hord : FloatKind.f64.format.order (floatOfInt .f64 N) (floatOfInt .f64 N) = some .eq := by
    rw [Fw.order_whole hb hb]
    simp [compare, compareOfLessAndEq]
  clear hS hs hT hV
  go_enter Tryd.func4, Tryd.ntmps4
  go_wp2_with fail
  refine (spec_Whole.calls 18 N s _ HS.out).mono ?_
  rintro e w1 ⟨rfl, hb1⟩
  have HB1 := Aside0.mk hb1
  clear hb1
  go_wp2_with fail
  refine (impl_float s N HX.out.1 HX.out.2 _ ((HT.out.below HB1.out).mono HB1.out.size) ((HV.out.below HB1.out).mono HB1.out.size)).mono ?_
  rintro e w2 ⟨rfl, hb2⟩
  have HB2 := Aside0.mk (below_then HB1.out HB1.out.size hb2)
  clear hb2
  go_wp2_with fail
  refine (spec_Whole.calls 18 N s _ HS.out).mono ?_
  rintro e w3 ⟨rfl, hb3⟩
  have HB3 := Aside0.mk (below_then HB2.out HB2.out.size hb3)
  clear hb3
  go_wp2_with fail
  refine (impl_num s N HX.out.1 HX.out.2 _ ((HT.out.below HB3.out).mono HB3.out.size) ((HV.out.below HB3.out).mono HB3.out.size)).mono ?_
  rintro e w4 ⟨b, rfl, hb4⟩
  have HB4 := Aside0.mk (below_then HB3.out HB3.out.size hb4)
  clear hb4
  have hfd := fun w => num_of_v 2 s b (floatOfInt .f64 N) 0 w
  go_wp2_with fail
  go_ret
  exact ⟨rfl, HB4.out⟩
end Go.Proofs.YtldfejbmdonaoaaDoor.Fl