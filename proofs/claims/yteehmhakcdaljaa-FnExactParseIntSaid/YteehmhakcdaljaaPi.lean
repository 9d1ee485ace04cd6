/- gjson.parseInt on the text of a whole number of at most 18 digits; laws.FnExactParseInt returns true on every int64. -/
import Derived.Test.YteehmhakcdaljaaDec
namespace Go.Proofs.Yteehmhakcdaljaa.Pi
open Go.RowKit Go.Proofs.YteehmhakcdaljaaW.PrintWords Go.Proofs.YteehmhakcdaljaaW.PrintLast Go.Proofs.YteehmhakcdaljaaW.PrintMore Go.Proofs.Yteehmhakcdaljaa.Bt Go.Proofs.Yteehmhakcdaljaa.Pu Go.Proofs.Yteehmhakcdaljaa.Dec Go.Proofs.Yteehmhakcdaljaa.PFnExactParseInt
set_option linter.unusedVariables false
set_option linter.unusedSimpArgs false

theorem res_of {d : ByteArray} {n m : Int} {b : Bool} (D : Digits d n 18) (r : Res d m b) : b = true ∧ n = m := by
  have hb : b = true := r.ok.mpr ⟨by have := D.pos; omega, D.all⟩
  exact ⟨hb, by rw [r.num hb D.le, D.num]⟩
theorem Digits.bound {d : ByteArray} {n : Int} (D : Digits d n 18) : 0 ≤ n ∧ n < 1000000000000000000 := by
  have h := val_bd D.all
  rw [D.num] at h
  exact ⟨h.1, Int.lt_of_lt_of_le h.2 (pow_le_18 D.le)⟩

theorem parseInt_pos (d : ByteArray) (n : Int) (D : Digits d n 18) (w : World) : Calls Try.prog 26 #[.string d] w fun e w' => e = .returned (.tuple #[.int .i64 n, .bool true]) ∧ Drawn0 w w' := by
  have hb := Digits.bound D
  obtain ⟨p1, p2⟩ := hb
  have hx := bt_at0 d
  have h0 := D.all 0 (by have := D.pos; omega)
  have c1 : decide ((0 : Int) < (d.size : Int)) = true := decide_eq_true (by have := D.pos; omega)
  have c1' : decide (0 < d.size) = true := decide_eq_true (by have := D.pos; omega)
  have p3 : 0 < d.size := by have := D.pos; omega
  have c2 : (bt d 0 == 45) = false := by rw [beq_eq_false_iff_ne]; have := h0.1; simp at this; omega
  have hle : d.size ≤ 140737488351232 := by have := D.le; omega
  have HD := Aside0.mk D
  have HL := Aside0.mk hle
  clear D h0 hle
  go_enter Try.func26, Try.ntmps26
  go_wp2_with (go_at_call 24; refine (parseUint_any _ _ HL.out).mono ?_; rintro e w' ⟨m, b, rfl, hr, ⟨m2, rfl⟩⟩; obtain ⟨rfl, rfl⟩ := res_of HD.out hr; clear hr)
  go_ret2
  exact ⟨rfl, ⟨⟨_, rfl⟩⟩⟩
theorem parseInt_neg (d : ByteArray) (n : Int) (D : Digits d n 18) (w : World) : Calls Try.prog 26 #[.string ((⟨#[45]⟩ : ByteArray) ++ d)] w fun e w' => e = .returned (.tuple #[.int .i64 (-n), .bool true]) ∧ Drawn0 w w' := by
  have hb := Digits.bound D
  obtain ⟨p1, p2⟩ := hb
  obtain ⟨s, hs⟩ : ∃ s, s = (⟨#[45]⟩ : ByteArray) ++ d := ⟨_, rfl⟩
  have hsz : s.size = 1 + d.size := by rw [hs, ByteArray.size_append]; rfl
  have h45 : bt s 0 = 45 := by
    have := bt_append_left (a := (⟨#[45]⟩ : ByteArray)) (b := d) (j := 0) (by decide)
    rw [hs]
    rw [show ((0 : Nat) : Int) = 0 from rfl] at this
    rw [this]
    rfl
  have hex : s.extract 1 s.size = d := by
    refine ext_bt (by rw [ByteArray.size_extract]; omega) fun j hj => ?_
    have hj' : 1 + j < s.size := by rw [ByteArray.size_extract] at hj; omega
    rw [bt_extract (Nat.le_refl _) hj', hs]
    exact bt_append_right (a := (⟨#[45]⟩ : ByteArray)) (b := d) j
  rw [← hs]
  have hx := bt_at0 s
  have c1 : decide ((0 : Int) < (s.size : Int)) = true := decide_eq_true (by omega)
  have p3 : 0 < s.size := by omega
  have c2 : (bt s 0 == 45) = true := by rw [h45]; rfl
  have hle : d.size ≤ 140737488351232 := by have := D.le; omega
  have p5 : (1 : Int) ≤ (s.size : Int) := by omega
  have p4 : 1 ≤ s.size := by omega
  have HD := Aside0.mk D
  have HL := Aside0.mk hle
  have HX := Aside0.mk hex
  clear D hle hex hs hsz h45
  go_enter Try.func26, Try.ntmps26
  go_wp2_with (go_at_call 24; rw [HX.out]; refine (parseUint_any _ _ HL.out).mono ?_; rintro e w' ⟨m, b, rfl, hr, ⟨m2, rfl⟩⟩; obtain ⟨rfl, rfl⟩ := res_of HD.out hr; clear hr)
  go_ret2
  exact ⟨rfl, ⟨⟨_, rfl⟩⟩⟩

/-- What spec.Whole writes of n. -/
def WholeText (s : ByteArray) (n : Int) : Prop := (0 ≤ n ∧ Digits s n 18) ∨ (n < 0 ∧ ∃ d, s = (⟨#[45]⟩ : ByteArray) ++ d ∧ Digits d (-n) 18)
theorem whole_any (n : Int) (h0 : -1000000000000000000 < n) (h1 : n < 1000000000000000000) : ∃ s, spec_Whole.f 18 n = some s ∧ WholeText s n := by
  by_cases h : n < 0
  · obtain ⟨d, hd, D⟩ := whole_neg n h h0
    exact ⟨_, hd, .inr ⟨h, d, rfl, D⟩⟩
  · obtain ⟨d, hd, D⟩ := whole_pos n (by omega) h1
    exact ⟨d, hd, .inl ⟨by omega, D⟩⟩
theorem parseInt_any (s : ByteArray) (n : Int) (h : WholeText s n) (w : World) : Calls Try.prog 26 #[.string s] w fun e w' => e = .returned (.tuple #[.int .i64 n, .bool true]) ∧ Drawn0 w w' := by
  rcases h with ⟨_, D⟩ | ⟨_, d, rfl, D⟩
  · exact parseInt_pos s n D w
  · have := parseInt_neg d (-n) D w
    rwa [Int.neg_neg] at this
theorem impl_any (s : ByteArray) (n : Int) (h : WholeText s n) (w : World) : Calls Try.prog 11 #[.string s] w fun e w' => e = .returned (.tuple #[.int .i64 n, .bool true]) ∧ Drawn0 w w' := by
  have H := Aside0.mk h
  clear h
  go_enter Try.func11, Try.ntmps11
  go_wp2_with (first | (go_at_call 26; refine (parseInt_any _ n H.out _).mono ?_; rintro e w' ⟨rfl, ⟨m2, rfl⟩⟩) | go_in)
  go_ret2
  exact ⟨rfl, ⟨⟨_, rfl⟩⟩⟩
theorem law_any (n : Int) (w : World) (hn : (Lit.int .i64 n).wf = true) : Calls Try.prog 5 #[.int .i64 n] w (fun e w' => e = .returned (.bool true) ∧ Below w.heap.size w w') := by
  have hb : -9223372036854775808 ≤ n ∧ n ≤ 9223372036854775807 := by simpa [Lit.wf, IntKind.min, IntKind.max, IntKind.signed, IntKind.bits] using hn
  have b1 : -1000000000000000000 < Int.tmod n 1000000000000000000 := by
    have := Int.lt_tmod_of_pos n (b := 1000000000000000000) (by omega)
    omega
  have b2 : Int.tmod n 1000000000000000000 < 1000000000000000000 := Int.tmod_lt_of_pos n (by omega)
  obtain ⟨s, hs, ht⟩ := whole_any (Int.tmod n 1000000000000000000) b1 b2
  have HS := Aside0.mk hs
  have HT := Aside0.mk ht
  clear hs ht hn b1 b2
  go_enter Try.func5, Try.ntmps5
  go_wp2_with (first | (go_at_call 12; refine (spec_Whole.calls 18 _ _ _ HS.out).mono ?_; rintro e w1 ⟨rfl, hb1⟩; have HB1 := Aside0.mk hb1; clear hb1) | (go_at_call 11; refine (impl_any _ _ HT.out _).mono ?_; rintro e w' ⟨rfl, ⟨m2, rfl⟩⟩))
  go_ret
  exact ⟨by simp, pw_below_drewN HB1.out _⟩
end Go.Proofs.Yteehmhakcdaljaa.Pi
