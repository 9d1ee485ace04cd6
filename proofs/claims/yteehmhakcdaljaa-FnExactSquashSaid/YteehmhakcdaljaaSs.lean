/- The law FnExactSquash: its plain half, what spec.Read says, and its walk. -/
import Derived.Test.YteehmhakcdaljaaSr
import Derived.Test.YteehmhakcdaljaaTr
import Derived.Test.YteehmhakcdaljaaPFnExactSquashx6
import Derived.Deep.QuietTactic
import Derived.BigQuiet
import Derived.Laws.Concat
namespace Go.Proofs.Yteehmhakcdaljaa.Ss
open Go.RowKit Go.Proofs.YteehmhakcdaljaaW.PrintWords Go.Proofs.YteehmhakcdaljaaW.PrintLast Go.Proofs.YteehmhakcdaljaaW.PrintMore Go.Proofs.Yteehmhakcdaljaa.Tw Go.Proofs.Yteehmhakcdaljaa.Tf Go.Proofs.Yteehmhakcdaljaa.Tp Go.Proofs.Yteehmhakcdaljaa.Te Go.Proofs.Yteehmhakcdaljaa.Tg Go.Proofs.Yteehmhakcdaljaa.Ti Go.Proofs.Yteehmhakcdaljaa.Tr Go.Proofs.Yteehmhakcdaljaa.Sq Go.Proofs.Yteehmhakcdaljaa.Sr Go.Proofs.Yteehmhakcdaljaa.Sp Go.Proofs.Yteehmhakcdaljaa.PFnExactSquash
set_option linter.unusedVariables false
set_option linter.unusedSimpArgs false

theorem win_of {s rest : ByteArray} {i j : Int} (h0 : 0 ≤ i) (h1 : i ≤ j) (h2 : j ≤ (s.size : Int)) :
    (s.extract i.toNat j.toNat).size = (j - i).toNat ∧ Win (s.extract i.toNat j.toNat ++ rest) s i j := by
  have e : (s.extract i.toNat j.toNat).size = (j - i).toNat := by rw [ByteArray.size_extract]; omega
  refine ⟨e, h0, h2, by rw [ByteArray.size_append, e]; omega, fun p h3 h4 => ?_⟩
  obtain ⟨n, hn⟩ : ∃ n : Nat, p - i = (n : Int) := ⟨(p - i).toNat, by omega⟩
  rw [hn, Bt.bt_append_left (by rw [e]; omega), Bt.bt_extract (by omega) (by omega)]
  congr 1
  omega
/-- squash on a value's text with anything behind it. -/
theorem squash_ok {s s' rest : ByteArray} (hs : (s.size : Int) ≤ 65536) (hr : (rest.size : Int) ≤ 65536) {k : Nat} {i j : Int} {T : JT} (h0 : 0 ≤ i) (h1 : i ≤ (s.size : Int)) (hk : 8 * ((s.size : Int) - i) + 200 ≤ k)
    (h : treeF (k + 1) s i false = some (T, s', j, false)) (hT : T.kind = 5 ∨ T.kind = 3) : ∃ m, impl_Squash.f m (T.raw ++ rest) = some T.raw := by
  have up : ∀ (u r : ByteArray), 0 < (u.size : Int) → (bt u 0 = 34 → L0 u 0 0 r) → (bt u 0 ≠ 34 → L0 u 1 1 r) → ∃ m, impl_Squash.f m u = some r := by
    intro u r hz ha hb
    by_cases c : bt u 0 = 34
    · obtain ⟨m, hm⟩ := ha c
      refine ⟨m + 1, ?_⟩
      unfold impl_Squash.f gjson_ZZSquash.f gjson_squash.f
      rw [if_pos hz, if_pos c, gjson_squash.j0, hm]
      rfl
    · obtain ⟨m, hm⟩ := hb c
      refine ⟨m + 1, ?_⟩
      unfold impl_Squash.f gjson_ZZSquash.f gjson_squash.f
      rw [if_pos hz, if_neg c, gjson_squash.j0, hm]
      rfl
  obtain ⟨rfl, ht⟩ := tree_inv hs h0 h1 (by omega) h
  cases ht with
  | str l p hc hR =>
    have hle : i + 1 + 1 ≤ j ∧ j ≤ (s'.size : Int) := strR_le _ _ hR
    obtain ⟨e, hw⟩ := win_of (s := s') (rest := rest) h0 (by omega) hle.2
    show ∃ m, impl_Squash.f m (s'.extract i.toNat j.toNat ++ rest) = some (s'.extract i.toNat j.toNat)
    have hz : (s'.extract i.toNat j.toNat ++ rest).size = (j - i).toNat + rest.size := by rw [ByteArray.size_append, e]
    have hcut : s'.extract i.toNat j.toNat = (s'.extract i.toNat j.toNat ++ rest).extract 0 (j - i).toNat := (ByteArray.extract_append_eq_left e.symm).symm
    revert hw hz hcut
    generalize s'.extract i.toNat j.toNat ++ rest = u
    intro hw hz hcut
    have b0 : bt u 0 = 34 := by
      have := hw.2.2.2 i (by omega) (by omega)
      rw [show i - i = 0 by omega] at this
      rw [this, hc]
    refine up u _ (by omega) (fun _ => ?_) (fun h => absurd b0 h)
    have := str_whole (d := 0) (r := s'.extract i.toNat j.toNat) (by omega) hw (by omega) (Int.le_refl _) (Int.le_refl _) hc hR ((j5_on (by omega) (by omega) (by omega)).2 rfl (by
      rw [show j - 1 - i + 1 = j - i by omega]
      exact hcut))
    rw [show i - i = 0 by omega] at this
    exact this
  | word kind x hx _ _ =>
    replace hT : kind = 5 ∨ kind = 3 := hT
    omega
  | list e ks K I P hc hL =>
    have hlt := lt_of_bt (s := s') (i := i) (by omega)
    obtain ⟨K', I', P', j', b', e1, j1, j2, _⟩ := (all_read hs k).2.1 i false e ks h0 (by omega) (by omega) (by omega)
    have e2 := e1.symm.trans hL
    simp only [Option.some.injEq, Prod.mk.injEq] at e2
    obtain ⟨_, _, _, _, rfl, _⟩ := e2
    obtain ⟨e, hw⟩ := win_of (s := s') (rest := rest) h0 (by omega) j2
    show ∃ m, impl_Squash.f m (s'.extract i.toNat j'.toNat ++ rest) = some (s'.extract i.toNat j'.toNat)
    have hz : (s'.extract i.toNat j'.toNat ++ rest).size = (j' - i).toNat + rest.size := by rw [ByteArray.size_append, e]
    have hcut : s'.extract i.toNat j'.toNat = (s'.extract i.toNat j'.toNat ++ rest).extract 0 (j' - i).toNat := (ByteArray.extract_append_eq_left e.symm).symm
    revert hw hz hcut
    generalize s'.extract i.toNat j'.toNat ++ rest = u
    intro hw hz hcut
    obtain ⟨g1, g2, g3⟩ := (all_pass hs (u := u) (by omega) hw k).2.1 i _ ks K I P s' j' 1 hL h0 (by omega) (by omega) (by omega) (Int.le_refl _) (Int.le_refl _) (by omega) (by omega)
    have b0 : bt u 0 ≠ 34 := by
      have := hw.2.2.2 i (by omega) (by omega)
      rw [show i - i = 0 by omega] at this
      rw [this]
      omega
    refine up u _ (by omega) (fun h => absurd h b0) (fun _ => ?_)
    have := g3 (s'.extract i.toNat j'.toNat) ((l0_close (by omega) (by omega) (by omega) (by omega) (by rw [hw.2.2.2 (j' - 1) (by omega) (by omega), g1]; omega)).2 rfl (by
      rw [show j' - 1 - i + 1 = j' - i by omega]
      exact hcut))
    rw [show i + 1 - i = 1 by omega] at this
    exact this
  | num _ _ _ =>
    replace hT : (2 : Int) = 5 ∨ (2 : Int) = 3 := hT
    omega
theorem raw_le {s s' : ByteArray} (hs : (s.size : Int) ≤ 65536) {k : Nat} {i j : Int} {T : JT} (h0 : 0 ≤ i) (h1 : i ≤ (s.size : Int)) (hk : 8 * ((s.size : Int) - i) + 200 ≤ k)
    (h : treeF (k + 1) s i false = some (T, s', j, false)) : T.raw.size ≤ s.size := by
  obtain ⟨rfl, ht⟩ := tree_inv hs h0 h1 (by omega) h
  have e : (s'.extract i.toNat j.toNat).size ≤ s'.size := by rw [ByteArray.size_extract]; omega
  cases ht <;> exact e
/-- What spec.Read says, with fuel enough. -/
theorem read_is {s : ByteArray} (hs : (s.size : Int) ≤ 65536) {k : Nat} (hk : 600000 ≤ k) : ∃ T ok, readF k s = some (T, ok) ∧
    ∃ j b, treeF k s (runEnd ws s 0) false = some (T, s, j, b) ∧ runEnd ws s 0 ≤ j ∧ j ≤ (s.size : Int) ∧ ok = (!b && runEnd ws s j == (s.size : Int)) := by
  have hs' : (s.size : Int) ≤ 2147483647 := by omega
  have hb := runEnd_le (p := ws) (s := s) (i := 0) (by omega)
  obtain ⟨T, j, b, e, j1, j2, _⟩ := (all_read hs k).1 (runEnd ws s 0) false (by omega) hb.2 (by omega)
  refine ⟨T, !b && runEnd ws s j == (s.size : Int), ?_, j, b, e, j1, j2, rfl⟩
  unfold readF
  rw [blank_eq hs' (by omega) false (by omega)]
  simp only [Option.bind_some]
  rw [e]
  simp only [Option.bind_some]
  rw [blank_eq hs' (by omega) b (by omega)]
  rfl

set_option maxRecDepth 100000 in
set_option maxHeartbeats 8000000 in
/-- spec.Read on a text that is too long. -/
theorem read_long (s : ByteArray) (w : World) (hs : 65536 < (s.size : Int)) :
    Calls Try.prog 13 #[.string s] w fun e w' => e = .returned (.tuple #[.agg #[.int .i64 0, .string ⟨#[]⟩, .int .i64 0, .string ⟨#[]⟩, .bool false, .slice none 0 0, .slice none 0 0], .bool false]) ∧ Below w.heap.size w w' := by
  have hy := heap_alloc_new w (.cells #[.int .i64 0, .string ⟨#[]⟩, .int .i64 0, .string ⟨#[]⟩, .bool false, .slice none 0 0, .slice none 0 0] 35)
  have r0 := (blk_cell hy 0).trans (rfl : _ = some (Value.int .i64 0))
  have r1 := (blk_cell hy 1).trans (rfl : _ = some (Value.string ⟨#[]⟩))
  have r2 := (blk_cell hy 2).trans (rfl : _ = some (Value.int .i64 0))
  have r3 := (blk_cell hy 3).trans (rfl : _ = some (Value.string ⟨#[]⟩))
  have r4 := (blk_cell hy 4).trans (rfl : _ = some (Value.bool false))
  have r5 := (blk_cell hy 5).trans (rfl : _ = some (Value.slice none 0 0))
  have r6 := (blk_cell hy 6).trans (rfl : _ = some (Value.slice none 0 0))
  go_enter Try.func13, Try.ntmps13
  go_wp2_with fail
  refine bodyPost_ret (v := .tuple #[.agg #[.int .i64 0, .string ⟨#[]⟩, .int .i64 0, .string ⟨#[]⟩, .bool false, .slice none 0 0, .slice none 0 0], .bool false]) (by simp [results, Try.results13, go_sem, r0, r1, r2, r3, r4, r5, r6]) rfl ?_
  exact ⟨rfl, below_alloc (Below.refl _ _) _⟩

set_option maxRecDepth 100000 in
set_option maxHeartbeats 8000000 in
theorem squash_law (s rest : ByteArray) (w : World) (hs : s.size ≤ 140737488351232) (hr : rest.size ≤ 140737488351232) :
    Calls Try.prog 6 #[.string s, .string rest] w fun e w' => e = .returned (.bool true) ∧ Below w.heap.size w w' := by
  by_cases c1 : (2147483647 : Int) < (s.size : Int)
  · go_enter Try.func6, Try.ntmps6
    go_wp2_with fail
    go_ret
    exact ⟨rfl, Below.refl _ _⟩
  by_cases c2 : (2147483647 : Int) < (rest.size : Int)
  · go_enter Try.func6, Try.ntmps6
    go_wp2_with fail
    go_ret
    exact ⟨rfl, Below.refl _ _⟩
  by_cases c3 : 65536 < (s.size : Int)
  · go_enter Try.func6, Try.ntmps6
    go_wp2_with fail
    refine (read_long s _ c3).mono ?_
    rintro e w1 ⟨rfl, hb⟩
    go_wp2_with fail
    go_ret
    exact ⟨rfl, below_alloc hb _⟩
  · go_enter Try.func6, Try.ntmps6
    obtain ⟨k, hk⟩ : ∃ k : Nat, 700000 ≤ k := ⟨700000, Nat.le_refl _⟩
    obtain ⟨T, ok, hread, j, b, ht, j1, j2, hok⟩ := read_is (s := s) (by omega) (k := k + 1) (by omega)
    have HR := Aside0.mk hread
    have HT := Aside0.mk ht
    clear hread ht
    go_wp2_with fail
    refine (read_any (k + 1) s T ok _ (by omega) HR.out).mono ?_
    rintro e w1 ⟨kv, iv, rfl, hT, hb⟩
    obtain ⟨A5, n5, c5, A6, n6, c6, rfl, rfl⟩ : ∃ A5 n5 c5 A6 n6 c6, kv = .slice A5 n5 c5 ∧ iv = .slice A6 n6 c6 := Tl.tree_slices hT
    have HOK := Aside0.mk hok
    clear hok hT HR
    cases ok with
    | false =>
      go_wp2_with fail
      go_ret
      exact ⟨rfl, below_alloc hb _⟩
    | true =>
      have hb0 : b = false := by
        have := HOK.out
        cases b with
        | true => simp at this
        | false => rfl
      subst hb0
      have rb := runEnd_le (p := ws) (s := s) (i := 0) (by omega)
      have sq : (rest.size : Int) ≤ 65536 → (T.kind = 5 ∨ T.kind = 3) → ∃ m, impl_Squash.f m (T.raw ++ rest) = some T.raw := fun h1 h2 => squash_ok (by omega) h1 (by omega) rb.2 (by omega) HT.out h2
      have hle : T.raw.size ≤ s.size := raw_le (by omega) (by omega) rb.2 (by omega) HT.out
      have hsum : T.raw.size + rest.size ≤ 9223372036854775807 := by omega
      have hadd := fun w => run_string_add_sum (P := Try.prog) w T.raw rest hsum
      have hsum2 : ¬ (9223372036854775807 : Int) < (T.raw.size : Int) + (rest.size : Int) := by omega
      have hsum3 : ¬ T.raw.size + rest.size > 9223372036854775807 := by omega
      clear HOK HT rb hk j1 j2 hle hsum
      by_cases k5 : T.kind = 5
      · by_cases c4 : 65536 < (rest.size : Int)
        · clear sq
          go_wp2_with fail
          go_ret
          exact ⟨rfl, below_alloc hb _⟩
        · obtain ⟨m, hm⟩ := sq (by omega) (.inl k5)
          have HM := Aside0.mk hm
          clear hm sq
          go_wp2_with fail
          go_quiet ((go_at_call 14; exact Calls.quiet_of (v := .string T.raw) ((impl_Squash.calls m _ _ _ HM.out).mono fun e w2 ⟨h1, n, h2⟩ => ⟨h1, n, h2⟩)))
          go_wp2
          go_ret
          exact ⟨rfl, (below_alloc hb _).trans ⟨rfl, rfl, rfl, Nat.le_refl _, fun _ _ => rfl⟩⟩
      · by_cases k3 : T.kind = 3
        · by_cases c4 : 65536 < (rest.size : Int)
          · clear sq
            go_wp2_with fail
            go_ret
            exact ⟨rfl, below_alloc hb _⟩
          · obtain ⟨m, hm⟩ := sq (by omega) (.inr k3)
            have HM := Aside0.mk hm
            clear hm sq
            go_wp2_with fail
            go_quiet ((go_at_call 14; exact Calls.quiet_of (v := .string T.raw) ((impl_Squash.calls m _ _ _ HM.out).mono fun e w2 ⟨h1, n, h2⟩ => ⟨h1, n, h2⟩)))
            go_wp2
            go_ret
            exact ⟨rfl, (below_alloc hb _).trans ⟨rfl, rfl, rfl, Nat.le_refl _, fun _ _ => rfl⟩⟩
        · clear sq
          go_wp2_with fail
          go_ret
          exact ⟨rfl, below_alloc hb _⟩
end Go.Proofs.Yteehmhakcdaljaa.Ss
