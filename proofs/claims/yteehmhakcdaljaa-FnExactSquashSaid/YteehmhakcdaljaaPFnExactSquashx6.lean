-- PRINTED BY print.sh 35421559b90ae4d0a3588c463048766b98c2df88dd9212a6774a882060cdf62d: not written by this session
import Derived.Test.YteehmhakcdaljaaPFnExactSquashx0
import Derived.Test.YteehmhakcdaljaaPFnExactSquashx5
namespace Go.Proofs.Yteehmhakcdaljaa.PFnExactSquash
open Go.RowKit Go.Proofs.YteehmhakcdaljaaW.PrintWords Go.Proofs.YteehmhakcdaljaaW.PrintLast Go.Proofs.YteehmhakcdaljaaW.PrintMore
attribute [local go_sem] max2_int min2_int max_two min_two max_three min_three max_four min_four   -- for this text's walks alone
set_option linter.unusedVariables false
set_option linter.unusedSimpArgs false

/-! ### gjson_ZZSquash: function 22 -/
def gjson_ZZSquash.f (k : Nat) (a0 : ByteArray) : Option (ByteArray) := (gjson_squash.f k a0).bind fun t235 => (some t235)
theorem gjson_ZZSquash.mono : ∀ a0 k, LeO (gjson_ZZSquash.f k a0) (gjson_ZZSquash.f (k + 1) a0) := by
  intro a0 k
  unfold gjson_ZZSquash.f
  repeat' first
      | (with_reducible exact gjson_squash.mono _ _)
      | (with_reducible exact LeO.refl _)
      | (with_reducible exact LeO.none _)
      | (with_reducible refine LeO.ite ?_ ?_)
      | (with_reducible refine LeO.bind ?_ (fun _ => ?_))
      | exact gjson_squash.mono _ _
      | exact LeO.none _
      | refine LeO.ite ?_ ?_
      | refine LeO.bind ?_ (fun _ => ?_)
set_option maxHeartbeats 8000000 in
set_option maxRecDepth 100000 in
theorem gjson_ZZSquash.calls (k : Nat) (a0 : ByteArray) (r : ByteArray) (w : World) (h : gjson_ZZSquash.f k a0 = some r) :
    Calls Try.prog 22 #[.string a0] w fun e w' => e = .returned (.string r) ∧ Drawn0 w w' := by
  have H : ((gjson_squash.f k a0).bind fun t235 => (some t235)) = some r := h
  clear h
  replace H := Option.bind_eq_some_iff.mp H
  obtain ⟨t235, A20, H⟩ := H
  replace H : (some t235) = some r := H
  have A2 := Aside0.mk A20
  clear A20
  obtain rfl := Option.some.inj H
  go_enter Try.func22, Try.ntmps22
  go_wp2_with (first | ((with_reducible refine gate_callee (f := 32) rfl ?_); refine goesL_ (some 4) rfl rfl Try.func32 (by kernel_rfl) rfl #[.string a0] rfl (by (try simp only [List.map_toArray, List.map_cons, List.map_nil]); first | done | rfl | (simp only [List.length_drop, List.length_take]; rfl)) ?_; (with_reducible refine (gjson_squash.calls k a0 t235 _ A2.out).mono ?_); rintro e w' ⟨rfl, ⟨nd, rfl⟩⟩; refine ⟨_, rfl, ?_⟩))
  go_ret
  exact ⟨by first | rfl | (simp; done) | (simp [*]; done), by repeat (first | exact Drawn0.refl _ | apply Drawn0.step)⟩

/-! ### impl_Squash: function 14 -/
def impl_Squash.f (k : Nat) (a0 : ByteArray) : Option (ByteArray) := (gjson_ZZSquash.f k a0).bind fun t236 => (some t236)
theorem impl_Squash.mono : ∀ a0 k, LeO (impl_Squash.f k a0) (impl_Squash.f (k + 1) a0) := by
  intro a0 k
  unfold impl_Squash.f
  repeat' first
      | (with_reducible exact gjson_ZZSquash.mono _ _)
      | (with_reducible exact LeO.refl _)
      | (with_reducible exact LeO.none _)
      | (with_reducible refine LeO.ite ?_ ?_)
      | (with_reducible refine LeO.bind ?_ (fun _ => ?_))
      | exact gjson_ZZSquash.mono _ _
      | exact LeO.none _
      | refine LeO.ite ?_ ?_
      | refine LeO.bind ?_ (fun _ => ?_)
set_option maxHeartbeats 8000000 in
set_option maxRecDepth 100000 in
theorem impl_Squash.calls (k : Nat) (a0 : ByteArray) (r : ByteArray) (w : World) (h : impl_Squash.f k a0 = some r) :
    Calls Try.prog 14 #[.string a0] w fun e w' => e = .returned (.string r) ∧ Drawn0 w w' := by
  have H : ((gjson_ZZSquash.f k a0).bind fun t236 => (some t236)) = some r := h
  clear h
  replace H := Option.bind_eq_some_iff.mp H
  obtain ⟨t236, A20, H⟩ := H
  replace H : (some t236) = some r := H
  have A2 := Aside0.mk A20
  clear A20
  obtain rfl := Option.some.inj H
  go_enter Try.func14, Try.ntmps14
  go_wp2_with (first | ((with_reducible refine gate_callee (f := 22) rfl ?_); refine goesL_ (some 4) rfl rfl Try.func22 (by kernel_rfl) rfl #[.string a0] rfl (by (try simp only [List.map_toArray, List.map_cons, List.map_nil]); first | done | rfl | (simp only [List.length_drop, List.length_take]; rfl)) ?_; (with_reducible refine (gjson_ZZSquash.calls k a0 t236 _ A2.out).mono ?_); rintro e w' ⟨rfl, ⟨nd, rfl⟩⟩; refine ⟨_, rfl, ?_⟩))
  go_ret
  exact ⟨by first | rfl | (simp; done) | (simp [*]; done), by repeat (first | exact Drawn0.refl _ | apply Drawn0.step)⟩

-- NOT PRINTED: function 6 (laws_FnExactSquash)

end Go.Proofs.Yteehmhakcdaljaa.PFnExactSquash
