/- Joined by a program of mine from texts of this claim: PFnAppendParsex11, Ss. -/
import Derived.Test.YtldfejbmdonaoaaGreatDoorZ45
import Derived.Test.YtldfejbmdonaoaaGreatDoorZ46
import Derived.Test.YtldfejbmdonaoaaGreatDoorZ48
import Derived.Test.YtldfejbmdonaoaaGreatDoorZ25
import Derived.Deep.QuietTactic
import Derived.BigQuiet
import Derived.Laws.Concat
namespace Go.Proofs.YtldfejbmdonaoaaGreatDoor.PFnAppendParse
open Go.RowKit YtldfejbmdonaoaaGreatDoorW.PrintWords YtldfejbmdonaoaaGreatDoorW.PrintLast YtldfejbmdonaoaaGreatDoorW.PrintMore
attribute [local go_sem] max2_int min2_int max_two min_two max_three min_three max_four min_four   -- for this text's walks alone
set_option linter.unusedVariables false
set_option linter.unusedSimpArgs false
def gjson_ZZSquash.f (k : Nat) (a0 : ByteArray) : Option (ByteArray) := (gjson_squash.f k a0).bind fun t255 => (some t255)
set_option maxHeartbeats 8000000 in
set_option maxRecDepth 100000 in
theorem gjson_ZZSquash.calls (k : Nat) (a0 : ByteArray) (r : ByteArray) (w : World) (h : gjson_ZZSquash.f k a0 = some r) :
    Calls Tryz.prog 34 #[.string a0] w fun e w' => e = .returned (.string r) ∧ Drawn0 w w' := by
  have H : ((gjson_squash.f k a0).bind fun t255 => (some t255)) = some r := h
  clear h
  replace H := Option.bind_eq_some_iff.mp H
  obtain ⟨t255, A20, H⟩ := H
  replace H : (some t255) = some r := H
  have A2 := Aside0.mk A20
  clear A20
  obtain rfl := Option.some.inj H
  go_enter Tryz.func34, Tryz.ntmps34
  go_wp2_with (first | ((with_reducible refine gate_callee (f := 51) rfl ?_); refine goesL_ (some 4) rfl rfl Tryz.func51 (by kernel_rfl) rfl #[.string a0] rfl (by (try simp only [List.map_toArray, List.map_cons, List.map_nil]); first | done | rfl | (simp only [List.length_drop, List.length_take]; rfl)) ?_; (with_reducible refine (gjson_squash.calls k a0 t255 _ A2.out).mono ?_); rintro e w' ⟨rfl, ⟨nd, rfl⟩⟩; refine ⟨_, rfl, ?_⟩))
  go_ret
  exact ⟨by first | rfl | (simp; done) | (simp [*]; done), by repeat (first | exact Drawn0.refl _ | apply Drawn0.step)⟩
def impl_Squash.f (k : Nat) (a0 : ByteArray) : Option (ByteArray) := (gjson_ZZSquash.f k a0).bind fun t256 => (some t256)
set_option maxHeartbeats 8000000 in
set_option maxRecDepth 100000 in
theorem impl_Squash.calls (k : Nat) (a0 : ByteArray) (r : ByteArray) (w : World) (h : impl_Squash.f k a0 = some r) :
    Calls Tryz.prog 21 #[.string a0] w fun e w' => e = .returned (.string r) ∧ Drawn0 w w' := by
  have H : ((gjson_ZZSquash.f k a0).bind fun t256 => (some t256)) = some r := h
  clear h
  replace H := Option.bind_eq_some_iff.mp H
  obtain ⟨t256, A20, H⟩ := H
  replace H : (some t256) = some r := H
  have A2 := Aside0.mk A20
  clear A20
  obtain rfl := Option.some.inj H
  go_enter Tryz.func21, Tryz.ntmps21
  go_wp2_with (first | ((with_reducible refine gate_callee (f := 34) rfl ?_); refine goesL_ (some 4) rfl rfl Tryz.func34 (by kernel_rfl) rfl #[.string a0] rfl (by (try simp only [List.map_toArray, List.map_cons, List.map_nil]); first | done | rfl | (simp only [List.length_drop, List.length_take]; rfl)) ?_; (with_reducible refine (gjson_ZZSquash.calls k a0 t256 _ A2.out).mono ?_); rintro e w' ⟨rfl, ⟨nd, rfl⟩⟩; refine ⟨_, rfl, ?_⟩))
  go_ret
  exact ⟨by first | rfl | (simp; done) | (simp [*]; done), by repeat (first | exact Drawn0.refl _ | apply Drawn0.step)⟩
end Go.Proofs.YtldfejbmdonaoaaGreatDoor.PFnAppendParse
namespace Go.Proofs.YtldfejbmdonaoaaGreatDoor.Ss
open Go.RowKit YtldfejbmdonaoaaGreatDoorW.PrintWords YtldfejbmdonaoaaGreatDoorW.PrintLast YtldfejbmdonaoaaGreatDoorW.PrintMore Tw Tf Tp Te Tg Ti Tr Sq Sr Sp PFnAppendParse
set_option linter.unusedVariables false
set_option linter.unusedSimpArgs false
theorem win_of {s rest : ByteArray} {i j : Int} (h0 : 0 ≤ i) (h1 : i ≤ j) (h2 : j ≤ (s.size : Int)) :
    (s.extract i.toNat j.toNat).size = (j - i).toNat ∧ Win (s.extract i.toNat j.toNat ++ rest) s i j := by
  have e : (s.extract i.toNat j.toNat).size = (j - i).toNat := by rw [ByteArray.size_extract]; omega
  refine ⟨e, h0, h2, by rw [ByteArray.size_append, e]; omega, fun p h3 h4 => ?_⟩
  obtain ⟨n, hn⟩ : ∃ n : Nat, p - i = (n : Int) := ⟨(p - i).toNat, by omega⟩
  rw [hn, Bt.bt_append_left (by rw [e]; omega), Bt.bt_extract (by omega) (by omega)]
  congr 1
  omega
theorem squash_ok {s s' rest : ByteArray} (hs : (s.size : Int) ≤ 65536) (hr : (rest.size : Int) ≤ 65536) {k : Nat} {i j : Int} {T : JT} (h0 : 0 ≤ i) (h1 : i ≤ (s.size : Int)) (hk : 8 * ((s.size : Int) - i) + 200 ≤ k)
    (h : treeF (k + 1) s i false = some (T, s', j, false)) (hT : T.kind = 5 ∨ T.kind = 3) : ∃ m, impl_Squash.f m (T.raw ++ rest) = some T.raw := by
  have up : ∀ (u r : ByteArray), 0 < (u.size : Int) → (bt u 0 = 34 → L0 u 0 0 r) → (bt u 0 ≠ 34 → L0 u 1 1 r) → ∃ m, impl_Squash.f m u = some r := by
    intro u r hz ha hb
    by_cases c : bt u 0 = 34
    · obtain ⟨m, hm⟩ := ha c
      refine ⟨m + 1, ?_⟩
      unfold impl_Squash.f gjson_ZZSquash.f gjson_squash.f
      rw [if_pos hz, if_pos c, gjson_squash.j0, hm]
      rfl
    · obtain ⟨m, hm⟩ := hb c
      refine ⟨m + 1, ?_⟩
      unfold impl_Squash.f gjson_ZZSquash.f gjson_squash.f
      rw [if_pos hz, if_neg c, gjson_squash.j0, hm]
      rfl
  obtain ⟨rfl, ht⟩ := tree_inv hs h0 h1 (by omega) h
  cases ht with
  | str l p hc hR =>
    have hle : i + 1 + 1 ≤ j ∧ j ≤ (s'.size : Int) := strR_le _ _ hR
    obtain ⟨e, hw⟩ := win_of (s := s') (rest := rest) h0 (by omega) hle.2
    show ∃ m, impl_Squash.f m (s'.extract i.toNat j.toNat ++ rest) = some (s'.extract i.toNat j.toNat)
    have hz : (s'.extract i.toNat j.toNat ++ rest).size = (j - i).toNat + rest.size := by rw [ByteArray.size_append, e]
    have hcut : s'.extract i.toNat j.toNat = (s'.extract i.toNat j.toNat ++ rest).extract 0 (j - i).toNat := (ByteArray.extract_append_eq_left e.symm).symm
    revert hw hz hcut
    generalize s'.extract i.toNat j.toNat ++ rest = u
    intro hw hz hcut
    have b0 : bt u 0 = 34 := by
      have := hw.2.2.2 i (by omega) (by omega)
      rw [show i - i = 0 by omega] at this
      rw [this, hc]
    refine up u _ (by omega) (fun _ => ?_) (fun h => absurd b0 h)
    have := str_whole (d := 0) (r := s'.extract i.toNat j.toNat) (by omega) hw (by omega) (Int.le_refl _) (Int.le_refl _) hc hR ((j5_on (by omega) (by omega) (by omega)).2 rfl (by
      rw [show j - 1 - i + 1 = j - i by omega]
      exact hcut))
    rw [show i - i = 0 by omega] at this
    exact this
  | word kind x hx _ _ =>
    replace hT : kind = 5 ∨ kind = 3 := hT
    omega
  | list e ks K I P hc hL =>
    have hlt := lt_of_bt (s := s') (i := i) (by omega)
    obtain ⟨K', I', P', j', b', e1, j1, j2, _⟩ := (all_read hs k).2.1 i false e ks h0 (by omega) (by omega) (by omega)
    have e2 := e1.symm.trans hL
    simp only [Option.some.injEq, Prod.mk.injEq] at e2
    obtain ⟨_, _, _, _, rfl, _⟩ := e2
    obtain ⟨e, hw⟩ := win_of (s := s') (rest := rest) h0 (by omega) j2
    show ∃ m, impl_Squash.f m (s'.extract i.toNat j'.toNat ++ rest) = some (s'.extract i.toNat j'.toNat)
    have hz : (s'.extract i.toNat j'.toNat ++ rest).size = (j' - i).toNat + rest.size := by rw [ByteArray.size_append, e]
    have hcut : s'.extract i.toNat j'.toNat = (s'.extract i.toNat j'.toNat ++ rest).extract 0 (j' - i).toNat := (ByteArray.extract_append_eq_left e.symm).symm
    revert hw hz hcut
    generalize s'.extract i.toNat j'.toNat ++ rest = u
    intro hw hz hcut
    obtain ⟨g1, g2, g3⟩ := (all_pass hs (u := u) (by omega) hw k).2.1 i _ ks K I P s' j' 1 hL h0 (by omega) (by omega) (by omega) (Int.le_refl _) (Int.le_refl _) (by omega) (by omega)
    have b0 : bt u 0 ≠ 34 := by
      have := hw.2.2.2 i (by omega) (by omega)
      rw [show i - i = 0 by omega] at this
      rw [this]
      omega
    refine up u _ (by omega) (fun h => absurd h b0) (fun _ => ?_)
    have := g3 (s'.extract i.toNat j'.toNat) ((l0_close (by omega) (by omega) (by omega) (by omega) (by rw [hw.2.2.2 (j' - 1) (by omega) (by omega), g1]; omega)).2 rfl (by
      rw [show j' - 1 - i + 1 = j' - i by omega]
      exact hcut))
    rw [show i + 1 - i = 1 by omega] at this
    exact this
  | num _ _ _ =>
    replace hT : (2 : Int) = 5 ∨ (2 : Int) = 3 := hT
    omega
theorem read_is {s : ByteArray} (hs : (s.size : Int) ≤ 65536) {k : Nat} (hk : 600000 ≤ k) : ∃ T ok, readF k s = some (T, ok) ∧
    ∃ j b, treeF k s (runEnd ws s 0) false = some (T, s, j, b) ∧ runEnd ws s 0 ≤ j ∧ j ≤ (s.size : Int) ∧ ok = (!b && runEnd ws s j == (s.size : Int)) := by
  have hs' : (s.size : Int) ≤ 2147483647 := by omega
  have hb := runEnd_le (p := ws) (s := s) (i := 0) (by omega)
  obtain ⟨T, j, b, e, j1, j2, _⟩ := (all_read hs k).1 (runEnd ws s 0) false (by omega) hb.2 (by omega)
  refine ⟨T, !b && runEnd ws s j == (s.size : Int), ?_, j, b, e, j1, j2, rfl⟩
  unfold readF
  rw [blank_eq hs' (by omega) false (by omega)]
  simp only [Option.bind_some]
  rw [e]
  simp only [Option.bind_some]
  rw [blank_eq hs' (by omega) b (by omega)]
  rfl
end Go.Proofs.YtldfejbmdonaoaaGreatDoor.Ss