-- PRINTED BY print.sh 35421559b90ae4d0a3588c463048766b98c2df88dd9212a6774a882060cdf62d: not written by this session
import Derived.Test.YteehmhakcdaljaaPFnExactLessLowerx0
import Derived.Test.YteehmhakcdaljaaPFnExactLessLowerx1
namespace Go.Proofs.Yteehmhakcdaljaa.PFnExactLessLower
open Go.RowKit Go.Proofs.YteehmhakcdaljaaW.PrintWords Go.Proofs.YteehmhakcdaljaaW.PrintLast Go.Proofs.YteehmhakcdaljaaW.PrintMore
attribute [local go_sem] max2_int min2_int max_two min_two max_three min_three max_four min_four   -- for this text's walks alone
set_option linter.unusedVariables false
set_option linter.unusedSimpArgs false

/-! ### gjson_ZZLessInsensitive: function 17 -/
def gjson_ZZLessInsensitive.f (k : Nat) (a0 : ByteArray) (a1 : ByteArray) : Option (Bool) := (gjson_stringLessInsensitive.f k a0 a1).bind fun t101 => (some t101)
theorem gjson_ZZLessInsensitive.mono : ∀ a0 a1 k, LeO (gjson_ZZLessInsensitive.f k a0 a1) (gjson_ZZLessInsensitive.f (k + 1) a0 a1) := by
  intro a0 a1 k
  unfold gjson_ZZLessInsensitive.f
  repeat' first
      | (with_reducible exact gjson_stringLessInsensitive.mono _ _ _)
      | (with_reducible exact LeO.refl _)
      | (with_reducible exact LeO.none _)
      | (with_reducible refine LeO.ite ?_ ?_)
      | (with_reducible refine LeO.bind ?_ (fun _ => ?_))
      | exact gjson_stringLessInsensitive.mono _ _ _
      | exact LeO.none _
      | refine LeO.ite ?_ ?_
      | refine LeO.bind ?_ (fun _ => ?_)
set_option maxHeartbeats 8000000 in
set_option maxRecDepth 100000 in
theorem gjson_ZZLessInsensitive.calls (k : Nat) (a0 : ByteArray) (a1 : ByteArray) (r : Bool) (w : World) (h : gjson_ZZLessInsensitive.f k a0 a1 = some r) :
    Calls Try.prog 17 #[.string a0, .string a1] w fun e w' => e = .returned (.bool r) ∧ Drawn0 w w' := by
  have H : ((gjson_stringLessInsensitive.f k a0 a1).bind fun t101 => (some t101)) = some r := h
  clear h
  replace H := Option.bind_eq_some_iff.mp H
  obtain ⟨t101, A30, H⟩ := H
  replace H : (some t101) = some r := H
  have A3 := Aside0.mk A30
  clear A30
  obtain rfl := Option.some.inj H
  go_enter Try.func17, Try.ntmps17
  go_wp2_with (first | ((with_reducible refine gate_callee (f := 25) rfl ?_); refine goesL_ (some 7) rfl rfl Try.func25 (by kernel_rfl) rfl #[.string a0, .string a1] rfl (by (try simp only [List.map_toArray, List.map_cons, List.map_nil]); first | done | rfl | (simp only [List.length_drop, List.length_take]; rfl)) ?_; (with_reducible refine (gjson_stringLessInsensitive.calls k a0 a1 t101 _ A3.out).mono ?_); rintro e w' ⟨rfl, ⟨nd, rfl⟩⟩; refine ⟨_, rfl, ?_⟩))
  go_ret
  exact ⟨by first | rfl | (simp; done) | (simp [*]; done), by repeat (first | exact Drawn0.refl _ | apply Drawn0.step)⟩

/-! ### impl_LessInsensitive: function 9 -/
def impl_LessInsensitive.f (k : Nat) (a0 : ByteArray) (a1 : ByteArray) : Option (Bool) := (gjson_ZZLessInsensitive.f k a0 a1).bind fun t102 => (some t102)
theorem impl_LessInsensitive.mono : ∀ a0 a1 k, LeO (impl_LessInsensitive.f k a0 a1) (impl_LessInsensitive.f (k + 1) a0 a1) := by
  intro a0 a1 k
  unfold impl_LessInsensitive.f
  repeat' first
      | (with_reducible exact gjson_ZZLessInsensitive.mono _ _ _)
      | (with_reducible exact LeO.refl _)
      | (with_reducible exact LeO.none _)
      | (with_reducible refine LeO.ite ?_ ?_)
      | (with_reducible refine LeO.bind ?_ (fun _ => ?_))
      | exact gjson_ZZLessInsensitive.mono _ _ _
      | exact LeO.none _
      | refine LeO.ite ?_ ?_
      | refine LeO.bind ?_ (fun _ => ?_)
set_option maxHeartbeats 8000000 in
set_option maxRecDepth 100000 in
theorem impl_LessInsensitive.calls (k : Nat) (a0 : ByteArray) (a1 : ByteArray) (r : Bool) (w : World) (h : impl_LessInsensitive.f k a0 a1 = some r) :
    Calls Try.prog 9 #[.string a0, .string a1] w fun e w' => e = .returned (.bool r) ∧ Drawn0 w w' := by
  have H : ((gjson_ZZLessInsensitive.f k a0 a1).bind fun t102 => (some t102)) = some r := h
  clear h
  replace H := Option.bind_eq_some_iff.mp H
  obtain ⟨t102, A30, H⟩ := H
  replace H : (some t102) = some r := H
  have A3 := Aside0.mk A30
  clear A30
  obtain rfl := Option.some.inj H
  go_enter Try.func9, Try.ntmps9
  go_wp2_with (first | ((with_reducible refine gate_callee (f := 17) rfl ?_); refine goesL_ (some 7) rfl rfl Try.func17 (by kernel_rfl) rfl #[.string a0, .string a1] rfl (by (try simp only [List.map_toArray, List.map_cons, List.map_nil]); first | done | rfl | (simp only [List.length_drop, List.length_take]; rfl)) ?_; (with_reducible refine (gjson_ZZLessInsensitive.calls k a0 a1 t102 _ A3.out).mono ?_); rintro e w' ⟨rfl, ⟨nd, rfl⟩⟩; refine ⟨_, rfl, ?_⟩))
  go_ret
  exact ⟨by first | rfl | (simp; done) | (simp [*]; done), by repeat (first | exact Drawn0.refl _ | apply Drawn0.step)⟩

-- NOT PRINTED: function 10 (spec_Lower)

-- NOT PRINTED: function 4 (laws_FnExactLessLower)

end Go.Proofs.Yteehmhakcdaljaa.PFnExactLessLower
