/- Joined by a program of mine from texts of this claim: Un. -/
import Derived.Test.YtldfejbmdonaoaaDoorX44
import Derived.Test.YtldfejbmdonaoaaDoorX46
import Derived.Test.YtldfejbmdonaoaaDoorX47
import Derived.Test.YtldfejbmdonaoaaDoorX48
namespace Go.Proofs.YtldfejbmdonaoaaDoor.Un
open Go.RowKit YtldfejbmdonaoaaDoorW.PrintWords YtldfejbmdonaoaaDoorW.PrintLast YtldfejbmdonaoaaDoorW.PrintMore Tp Fr At Pz Nx Gp Gv Gn Gi Wh Pn Fl PFnExactFloat
set_option linter.unusedVariables false
set_option linter.unusedSimpArgs false
theorem max_is : floatOfInt .f64 9007199254740991 = 4845873199050653695 := by decide +kernel
theorem min_is : floatOfInt .f64 (-9007199254740991) = 14069245235905429503 := by decide +kernel
set_option maxRecDepth 100000 in
theorem safe_small (n : Int) (hn : n.natAbs < 9007199254740992) (w : World) :
    Calls Tryd.prog 37 #[.float .f64 (floatOfInt .f64 n)] w fun e w' => e = .returned (.tuple #[.int .i64 n, .bool true]) ∧ Drawn0 w w' := by
  have h1 := Fw.order_whole (a := n) (b := -9007199254740991) hn (by decide)
  have h2 := Fw.order_whole (a := n) (b := 9007199254740991) hn (by decide)
  rw [min_is] at h1
  rw [max_is] at h2
  have hc := fun w => run_convert_float_int (P := Tryd.prog) w 28 2 .f64 .i64 (floatOfInt .f64 n) n (by kernel_rfl) Tryd.underlying2 (Fw.whole_of hn)
  have k1 : (FloatKind.f64.format.order (floatOfInt .f64 n) 14069245235905429503 == some .lt) = false := by
    rw [h1]
    have : ¬ n < -9007199254740991 := by omega
    simp [compare, compareOfLessAndEq, this]
    split <;> simp
  have k2 : (FloatKind.f64.format.order (floatOfInt .f64 n) 4845873199050653695 == some .gt) = false := by
    rw [h2]
    have : n < 9007199254740991 ∨ n = 9007199254740991 := by omega
    rcases this with h | h
    · simp [compare, compareOfLessAndEq, h]
    · simp [compare, compareOfLessAndEq, h]
  have HW := Aside0.mk (Drawn0.refl w)
  obtain ⟨x, hx⟩ : ∃ x, floatOfInt .f64 n = x := ⟨_, rfl⟩
  rw [hx] at hc k1 k2 ⊢
  clear h1 h2 hx hn
  go_enter Tryd.func37, Tryd.ntmps37
  go_wp2
  go_ret2
  exact ⟨rfl, by repeat (first | exact HW.out | apply Drawn0.step)⟩
set_option maxRecDepth 100000 in
theorem safe_big (x : Nat) (hx : Big x) (w : World) :
    Calls Tryd.prog 37 #[.float .f64 x] w fun e w' => e = .returned (.tuple #[.int .i64 0, .bool false]) ∧ Drawn0 w w' := by
  have h1 := Py.big_gt hx.1 hx.2 (a := -9007199254740991) (by decide)
  have h2 := Py.big_gt hx.1 hx.2 (a := 9007199254740991) (by decide)
  rw [min_is] at h1
  rw [max_is] at h2
  have k1 : (FloatKind.f64.format.order x 14069245235905429503 == some .lt) = false := by rw [h1]; rfl
  have k2 : (FloatKind.f64.format.order x 4845873199050653695 == some .gt) = true := by rw [h2]; rfl
  have HW := Aside0.mk (Drawn0.refl w)
  clear h1 h2 hx
  go_enter Tryd.func37, Tryd.ntmps37
  go_wp2
  go_ret2
  exact ⟨rfl, by repeat (first | exact HW.out | apply Drawn0.step)⟩
theorem nv_val {d : ByteArray} : ∀ k : Nat, nv d 0 k = Pu.val d k
  | 0 => rfl
  | k + 1 => by
    simp only [nv, Pu.val]
    rw [nv_val k, show (0 : Int) + (k : Int) = (k : Int) by omega]
theorem res_of {d : ByteArray} {n m : Int} {b : Bool} (D : Dgs d n 18) (r : Pu.Res d m b) : b = true ∧ n = m := by
  have hb : b = true := r.ok.mpr ⟨by have := D.pos; omega, D.all⟩
  exact ⟨hb, by rw [r.num hb D.le, ← nv_val, D.num]⟩
theorem Dgs.bound {d : ByteArray} {n : Int} (D : Dgs d n 18) : 0 ≤ n ∧ n < 1000000000000000000 := by
  have h := Pu.val_bd (s := d) (k := d.size) D.all
  rw [← nv_val, D.num] at h
  exact ⟨h.1, Int.lt_of_lt_of_le h.2 (Pu.pow_le_18 D.le)⟩
theorem parseUint_dgs (d : ByteArray) (n : Int) (D : Dgs d n 18) (w : World) : Calls Tryd.prog 35 #[.string d] w fun e w' => e = .returned (.tuple #[.int .u64 n, .bool true]) ∧ Drawn0 w w' := by
  refine (Pu.parseUint_any d w (by have := D.le; omega)).mono ?_
  rintro e w' ⟨m, b, rfl, hr, ⟨m2, rfl⟩⟩
  obtain ⟨rfl, rfl⟩ := res_of D hr
  exact ⟨rfl, ⟨_, rfl⟩⟩
set_option maxRecDepth 100000 in
theorem parseInt_dgs (d : ByteArray) (n : Int) (D : Dgs d n 18) (w : World) : Calls Tryd.prog 38 #[.string d] w fun e w' => e = .returned (.tuple #[.int .i64 n, .bool true]) ∧ Drawn0 w w' := by
  have hb := Dgs.bound D
  obtain ⟨p1, p2⟩ := hb
  have hx := Bt.bt_at0 d
  have h0 := D.all 0 (by have := D.pos; omega)
  have c1 : decide ((0 : Int) < (d.size : Int)) = true := decide_eq_true (by have := D.pos; omega)
  have c1' : decide (0 < d.size) = true := decide_eq_true (by have := D.pos; omega)
  have p3 : 0 < d.size := by have := D.pos; omega
  have c2 : (bt d 0 == 45) = false := by rw [beq_eq_false_iff_ne]; have := h0.1; simp at this; omega
  have HD := Aside0.mk D
  clear D h0
  go_enter Tryd.func38, Tryd.ntmps38
  go_wp2_with (go_at_call 35; refine (parseUint_dgs d n HD.out _).mono ?_; rintro e w' ⟨rfl, ⟨m2, rfl⟩⟩)
  go_ret2
  exact ⟨rfl, ⟨⟨_, rfl⟩⟩⟩
set_option maxRecDepth 100000 in
set_option maxHeartbeats 8000000 in
theorem uint_small (a b : ByteArray) (v : Int) (h0 : 0 ≤ v) (h1 : v < 9007199254740992) (d : Int) (A : Option Addr) (n m : Nat) (w : World) :
    Calls Tryd.prog 21 #[.agg #[.int .i64 2, .string a, .string b, .float .f64 (floatOfInt .f64 v), .int .i64 d, .slice A n m]] w fun e w' => e = .returned (.int .u64 v) ∧ Below w.heap.size w w' := by
  obtain ⟨x, hx⟩ : ∃ x, floatOfInt .f64 v = x := ⟨_, rfl⟩
  have HS := Aside0.mk (fun W => by have h := safe_small v (by omega) W; rw [hx] at h; exact h)
  rw [hx]
  have d1 : decide (v ≥ 0) = true := decide_eq_true h0
  have d1b : decide (0 ≤ v) = true := decide_eq_true h0
  have HB := Aside0.mk ((Below.refl w.heap.size w).alloc (Nat.le_refl _) (Obj.cells #[.int .i64 2, .string a, .string b, .float .f64 x, .int .i64 d, .slice A n m] 51))
  clear hx
  go_enter Tryd.func21, Tryd.ntmps21
  go_wp2_with (go_at_call 37; refine (HS.out _).mono ?_; rintro e w5 ⟨rfl, ⟨m5, rfl⟩⟩)
  go_ret
  exact ⟨rfl, by repeat (first | exact HB.out | apply pw_below_drewN)⟩
set_option maxRecDepth 100000 in
set_option maxHeartbeats 8000000 in
theorem uint_big (a b : ByteArray) (v : Int) (D : Dgs a v 18) (x : Nat) (hx : Big x) (d : Int) (A : Option Addr) (n m : Nat) (w : World) :
    Calls Tryd.prog 21 #[.agg #[.int .i64 2, .string a, .string b, .float .f64 x, .int .i64 d, .slice A n m]] w fun e w' => e = .returned (.int .u64 v) ∧ Below w.heap.size w w' := by
  have HS := Aside0.mk (fun W => safe_big x hx W)
  have HQ := Aside0.mk (fun W => parseUint_dgs a v D W)
  have HB := Aside0.mk ((Below.refl w.heap.size w).alloc (Nat.le_refl _) (Obj.cells #[.int .i64 2, .string a, .string b, .float .f64 x, .int .i64 d, .slice A n m] 51))
  clear hx D
  go_enter Tryd.func21, Tryd.ntmps21
  go_wp2_with (first | (go_at_call 37; refine (HS.out _).mono ?_; rintro e w5 ⟨rfl, ⟨m5, rfl⟩⟩) | (go_at_call 35; refine (HQ.out _).mono ?_; rintro e w6 ⟨rfl, ⟨m6, rfl⟩⟩))
  go_ret
  exact ⟨rfl, by repeat (first | exact HB.out | apply pw_below_drewN)⟩
set_option maxRecDepth 100000 in
set_option maxHeartbeats 8000000 in
theorem int_small (a b : ByteArray) (v : Int) (h0 : 0 ≤ v) (h1 : v < 9007199254740992) (d : Int) (A : Option Addr) (n m : Nat) (w : World) :
    Calls Tryd.prog 22 #[.agg #[.int .i64 2, .string a, .string b, .float .f64 (floatOfInt .f64 v), .int .i64 d, .slice A n m]] w fun e w' => e = .returned (.int .i64 v) ∧ Below w.heap.size w w' := by
  obtain ⟨x, hx⟩ : ∃ x, floatOfInt .f64 v = x := ⟨_, rfl⟩
  have HS := Aside0.mk (fun W => by have h := safe_small v (by omega) W; rw [hx] at h; exact h)
  rw [hx]
  have d1 : decide (v ≥ 0) = true := decide_eq_true h0
  have d1b : decide (0 ≤ v) = true := decide_eq_true h0
  have HB := Aside0.mk ((Below.refl w.heap.size w).alloc (Nat.le_refl _) (Obj.cells #[.int .i64 2, .string a, .string b, .float .f64 x, .int .i64 d, .slice A n m] 51))
  clear hx
  go_enter Tryd.func22, Tryd.ntmps22
  go_wp2_with (go_at_call 37; refine (HS.out _).mono ?_; rintro e w5 ⟨rfl, ⟨m5, rfl⟩⟩)
  go_ret
  exact ⟨rfl, by repeat (first | exact HB.out | apply pw_below_drewN)⟩
set_option maxRecDepth 100000 in
set_option maxHeartbeats 8000000 in
theorem int_big (a b : ByteArray) (v : Int) (D : Dgs a v 18) (x : Nat) (hx : Big x) (d : Int) (A : Option Addr) (n m : Nat) (w : World) :
    Calls Tryd.prog 22 #[.agg #[.int .i64 2, .string a, .string b, .float .f64 x, .int .i64 d, .slice A n m]] w fun e w' => e = .returned (.int .i64 v) ∧ Below w.heap.size w w' := by
  have HS := Aside0.mk (fun W => safe_big x hx W)
  have HQ := Aside0.mk (fun W => parseInt_dgs a v D W)
  have HB := Aside0.mk ((Below.refl w.heap.size w).alloc (Nat.le_refl _) (Obj.cells #[.int .i64 2, .string a, .string b, .float .f64 x, .int .i64 d, .slice A n m] 51))
  clear hx D
  go_enter Tryd.func22, Tryd.ntmps22
  go_wp2_with (first | (go_at_call 37; refine (HS.out _).mono ?_; rintro e w5 ⟨rfl, ⟨m5, rfl⟩⟩) | (go_at_call 38; refine (HQ.out _).mono ?_; rintro e w6 ⟨rfl, ⟨m6, rfl⟩⟩))
  go_ret
  exact ⟨rfl, by repeat (first | exact HB.out | apply pw_below_drewN)⟩
theorem uint_any (a b : ByteArray) (v : Int) (D : Dgs a v 18) (x : Nat) (hx : (v < 9007199254740992 ∧ x = floatOfInt .f64 v) ∨ Big x) (d : Int) (A : Option Addr) (n m : Nat) (w : World) :
    Calls Tryd.prog 21 #[.agg #[.int .i64 2, .string a, .string b, .float .f64 x, .int .i64 d, .slice A n m]] w fun e w' => e = .returned (.int .u64 v) ∧ Below w.heap.size w w' := by
  rcases hx with ⟨h, rfl⟩ | h
  · exact uint_small a b v (Dgs.bound D).1 h d A n m w
  · exact uint_big a b v D x h d A n m w
theorem int_any (a b : ByteArray) (v : Int) (D : Dgs a v 18) (x : Nat) (hx : (v < 9007199254740992 ∧ x = floatOfInt .f64 v) ∨ Big x) (d : Int) (A : Option Addr) (n m : Nat) (w : World) :
    Calls Tryd.prog 22 #[.agg #[.int .i64 2, .string a, .string b, .float .f64 x, .int .i64 d, .slice A n m]] w fun e w' => e = .returned (.int .i64 v) ∧ Below w.heap.size w w' := by
  rcases hx with ⟨h, rfl⟩ | h
  · exact int_small a b v (Dgs.bound D).1 h d A n m w
  · exact int_big a b v D x h d A n m w
theorem parse_dgs (s : ByteArray) (v : Int) (D : Dgs s v 18) (w : World) (hT : Tabs w w.heap.size) (hV : ErrVars w w.heap.size) :
    Calls Tryd.prog 19 #[.string s] w fun e w' => ∃ x : Nat, e = .returned (.agg #[.int .i64 2, .string s, .string ⟨#[]⟩, .float .f64 x, .int .i64 0, .slice none 0 0]) ∧ ((v < 9007199254740992 ∧ x = floatOfInt .f64 v) ∨ Big x) ∧ Below w.heap.size w w' := by
  have hb := Dgs.bound D
  have h := pos_text hb.1 D
  refine (parse_other s 0 2 s.size (lead_of h) (shape_of h) w hT hV).mono ?_
  rintro e w' ⟨x, rfl, hx, hbl⟩
  rw [self_of] at hx ⊢
  refine ⟨x, rfl, ?_, hbl⟩
  by_cases c : v < 9007199254740992
  · exact .inl ⟨c, x_of h (by omega) (hx rfl)⟩
  · obtain ⟨j, hj, hv, hs⟩ := h.is
    have hj0 : j = 0 := by
      rcases hj.sign with ⟨e, _⟩ | ⟨e, _⟩
      · exact e
      · have := hs.mp e; omega
    refine .inr ((hx rfl).2 j hj hj0 ?_)
    rw [hv, if_neg (by omega)]
    omega
set_option maxRecDepth 100000 in
set_option maxHeartbeats 8000000 in
theorem impl_uint (s : ByteArray) (v : Int) (D : Dgs s v 18) (w : World) (hT : Tabs w w.heap.size) (hV : ErrVars w w.heap.size) :
    Calls Tryd.prog 13 #[.string s] w fun e w' => e = .returned (.int .u64 v) ∧ Below w.heap.size w w' := by
  have hb := Dgs.bound D
  have HP := Aside0.mk (parse_dgs s v D w hT hV)
  have HQ := Aside0.mk (fun (x : Nat) (hx : (v < 9007199254740992 ∧ x = floatOfInt .f64 v) ∨ Big x) (W : World) => uint_any s ⟨#[]⟩ v D x hx 0 none 0 0 W)
  clear D hT hV hb
  go_enter Tryd.func13, Tryd.ntmps13
  go_wp2_with fail
  refine HP.out.mono ?_
  rintro e w1 ⟨x, rfl, hx, hb⟩
  have HB := Aside0.mk hb
  have HX := Aside0.mk hx
  clear hb hx
  go_wp2_with fail
  refine (HQ.out x HX.out _).mono ?_
  rintro e w2 ⟨rfl, hb⟩
  have HB2 := Aside0.mk (below_then HB.out HB.out.size hb)
  clear hb
  go_wp2
  go_ret
  exact ⟨rfl, HB2.out⟩
set_option maxRecDepth 100000 in
set_option maxHeartbeats 8000000 in
theorem impl_int (s : ByteArray) (v : Int) (D : Dgs s v 18) (w : World) (hT : Tabs w w.heap.size) (hV : ErrVars w w.heap.size) :
    Calls Tryd.prog 14 #[.string s] w fun e w' => e = .returned (.int .i64 v) ∧ Below w.heap.size w w' := by
  have hb := Dgs.bound D
  have HP := Aside0.mk (parse_dgs s v D w hT hV)
  have HQ := Aside0.mk (fun (x : Nat) (hx : (v < 9007199254740992 ∧ x = floatOfInt .f64 v) ∨ Big x) (W : World) => int_any s ⟨#[]⟩ v D x hx 0 none 0 0 W)
  clear D hT hV hb
  go_enter Tryd.func14, Tryd.ntmps14
  go_wp2_with fail
  refine HP.out.mono ?_
  rintro e w1 ⟨x, rfl, hx, hb⟩
  have HB := Aside0.mk hb
  have HX := Aside0.mk hx
  clear hb hx
  go_wp2_with fail
  refine (HQ.out x HX.out _).mono ?_
  rintro e w2 ⟨rfl, hb⟩
  have HB2 := Aside0.mk (below_then HB.out HB.out.size hb)
  clear hb
  go_wp2
  go_ret
  exact ⟨rfl, HB2.out⟩
set_option maxRecDepth 100000 in
set_option maxHeartbeats 8000000 in
theorem uint_law (n : Int) (w : World) (hn : (Lit.int .u64 n).wf = true) (hT : Tabs w w.heap.size) (hV : ErrVars w w.heap.size) :
    Calls Tryd.prog 5 #[.int .u64 n] w fun e w' => e = .returned (.bool true) ∧ Below w.heap.size w w' := by
  have hw : 0 ≤ n ∧ n ≤ 18446744073709551615 := by
    have h : IntKind.min .u64 ≤ n ∧ n ≤ IntKind.max .u64 := by simpa [Lit.wf] using hn
    have e1 : IntKind.min .u64 = 0 := by decide
    have e2 : IntKind.max .u64 = 18446744073709551615 := by decide
    omega
  obtain ⟨v, hv⟩ : ∃ v, Int.tmod n 1000000000000000000 = v := ⟨_, rfl⟩
  have hb : 0 ≤ v ∧ v < 1000000000000000000 := by
    rw [← hv, Int.tmod_eq_emod_of_nonneg hw.1]
    omega
  have hv2 : n % 1000000000000000000 = v := by rw [← hv, Int.tmod_eq_emod_of_nonneg hw.1]
  obtain ⟨s, hs, D⟩ := dec_dgs 17 (by omega) v hb.1 (by omega) (by omega)
  have HS := Aside0.mk hs
  have HD := Aside0.mk D
  have HT := Aside0.mk hT
  have HV := Aside0.mk hV
  obtain ⟨p1, p2⟩ := hb
  clear hs D hT hV hn
  go_enter Tryd.func5, Tryd.ntmps5
  go_wp2_with fail
  refine (spec_Dec.calls 18 v s _ HS.out).mono ?_
  rintro e w1 ⟨rfl, hb1⟩
  have HB1 := Aside0.mk hb1
  clear hb1
  go_wp2_with fail
  refine (impl_uint s v HD.out _ ((HT.out.below HB1.out).mono HB1.out.size) ((HV.out.below HB1.out).mono HB1.out.size)).mono ?_
  rintro e w2 ⟨rfl, hb2⟩
  have HB2 := Aside0.mk (below_then HB1.out HB1.out.size hb2)
  clear hb2
  go_wp2_with fail
  refine (impl_int s v HD.out _ ((HT.out.below HB2.out).mono HB2.out.size) ((HV.out.below HB2.out).mono HB2.out.size)).mono ?_
  rintro e w3 ⟨rfl, hb3⟩
  have HB3 := Aside0.mk (below_then HB2.out HB2.out.size hb3)
  clear hb3
  go_wp2_with fail
  go_ret
  exact ⟨rfl, HB3.out⟩
end Go.Proofs.YtldfejbmdonaoaaDoor.Un