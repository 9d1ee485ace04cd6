/- The law FnExactAppend: impl.AppendString, and that spec.Read reads the text back. -/
import Derived.Test.YteehmhakcdaljaaDoorUw
import Derived.Test.YteehmhakcdaljaaDoorVt
import Derived.Test.YteehmhakcdaljaaDoorRd
import Derived.RegionTactic
import Derived.BigRegion
namespace Go.Proofs.YteehmhakcdaljaaDoor.Ul
open Go.RowKit Go.Proofs.YteehmhakcdaljaaDoorW.PrintWords Go.Proofs.YteehmhakcdaljaaDoorW.PrintLast Go.Proofs.YteehmhakcdaljaaDoorW.PrintMore Go.Proofs.YteehmhakcdaljaaDoor.Tw Go.Proofs.YteehmhakcdaljaaDoor.Tf Go.Proofs.YteehmhakcdaljaaDoor.Tp Go.Proofs.YteehmhakcdaljaaDoor.Te Go.Proofs.YteehmhakcdaljaaDoor.Tg Go.Proofs.YteehmhakcdaljaaDoor.Ti Go.Proofs.YteehmhakcdaljaaDoor.Tr Go.Proofs.YteehmhakcdaljaaDoor.Rd Go.Proofs.YteehmhakcdaljaaDoor.Vt Go.Proofs.YteehmhakcdaljaaDoor.Uu Go.Proofs.YteehmhakcdaljaaDoor.Ua Go.Proofs.YteehmhakcdaljaaDoor.Uw Go.Proofs.YteehmhakcdaljaaDoor.Sp
set_option linter.unusedVariables false
set_option linter.unusedSimpArgs false

set_option maxRecDepth 100000 in
set_option maxHeartbeats 8000000 in
theorem string_walk (s : ByteArray) (hs : (s.size : Int) ≤ 5000) (l : List Int) (hE : Enc s 0 l) (w : World) (hT : HexTab w) (hU : Lib.Utf8Tabs 1 2 w) :
    Calls Tryd.prog 6 #[.string s] w fun e w' => e = .returned (.string (strOfNums (34 :: l ++ [34]))) ∧ Below w.heap.size w w' := by
  have HA := Aside0.mk (append_walk s hs l hE w hT hU)
  clear hE hT hU hs
  obtain ⟨xs, hxs⟩ : ∃ xs, 34 :: l ++ [34] = xs := ⟨_, rfl⟩
  rw [hxs] at HA ⊢
  clear hxs
  go_enter Tryd.func6, Tryd.ntmps6
  go_wp2_with fail
  refine HA.out.mono ?_
  rintro e w1 ⟨v1, rfl, ho, hb⟩
  have hcv := own_string (P := Tryd.prog) Tryd.underlying35 Tryd.underlying5 Tryd.underlying9 ho
  have HB := Aside0.mk hb
  clear HA ho hb
  go_wp2_with fail
  go_ret
  exact ⟨rfl, HB.out⟩

theorem strOfNums_bytesOf (s : ByteArray) : strOfNums (bytesOf s) = s := by
  have hz : (strOfNums (bytesOf s)).size = s.size := by rw [strOfNums_size, bytesOf_length]
  refine Bt.ext_bt hz fun j hj => ?_
  have hj' : j < (bytesOf s).length := by rw [bytesOf_length]; omega
  have h := bytes_at s j (by omega)
  rw [List.getElem?_eq_getElem hj'] at h
  have h2 := Option.some.inj h
  rw [Bt.bt_nums hj' (by rw [h2]; exact (bt_range _ _).1) (by rw [h2]; exact (bt_range _ _).2), h2]
/-- The written text, read. -/
theorem read_enc {s : ByteArray} (hs : (s.size : Int) ≤ 5000) {l : List Int} (hE : Enc s 0 l) {k : Nat} (hk : 700000 ≤ k) :
    ∃ T, readF k (strOfNums (34 :: l ++ [34])) = some (T, true) ∧ T.kind = 3 ∧ T.str = s ∧ T.pairs = true := by
  obtain ⟨hb, hl⟩ := enc_bytes hE (Int.le_refl _)
  have hbytes : ∀ x ∈ (34 :: l ++ [34]), 0 ≤ x ∧ x ≤ 255 := by
    intro x hx
    simp only [List.cons_append, List.mem_cons, List.mem_append, List.not_mem_nil, or_false] at hx
    rcases hx with rfl | hx | rfl
    · decide
    · exact hb x hx
    · decide
  have hH : Here (strOfNums (34 :: l ++ [34])) 0 (34 :: (l ++ [34])) := here_all hbytes
  have hz : (strOfNums (34 :: l ++ [34])).size = l.length + 2 := by rw [strOfNums_size]; simp
  revert hH hz
  generalize strOfNums (34 :: l ++ [34]) = o
  intro hH hz
  have h34 : bt o 0 = 34 := Here.head (l := l ++ [34]) hH
  have hR := read_back hE (Int.le_refl _) (0 + 1) (Here.tail (x := 34) (l := l ++ [34]) hH)
  have hr0 : runEnd ws o 0 = 0 := runEnd_stop (.inr (by rw [h34]; decide))
  obtain ⟨T, ok, hread, j, b, ht, j1, j2, hok⟩ := read_is (s := o) (by omega) (k := k) (by omega)
  rw [hr0] at ht j1
  obtain ⟨k, rfl⟩ : ∃ k', k = k' + 1 := ⟨k - 1, by omega⟩
  have hA := t_str (by omega) (Int.le_refl _) (by omega) (by omega) ht h34
  rw [hR] at hA
  obtain ⟨hbf, hj⟩ := hA
  subst hbf
  have hj2 : j = (o.size : Int) := by rw [hj, hz]; omega
  have hok2 : ok = true := by
    rw [hok, hj2, runEnd_stop (.inl (Int.le_refl _))]
    simp
  subst hok2
  refine ⟨T, hread, ?_⟩
  obtain ⟨_, hti⟩ := tree_inv (by omega) (Int.le_refl _) (by omega) (by omega) ht
  cases hti with
  | str l' p hc hR' =>
    rw [hR] at hR'
    simp only [Option.some.injEq, Prod.mk.injEq] at hR'
    obtain ⟨rfl, rfl, _⟩ := hR'
    refine ⟨rfl, ?_, rfl⟩
    show strOfNums ((bytesOf s).drop 0) = s
    rw [List.drop_zero]
    exact strOfNums_bytesOf s
  | word kind x hx hw _ =>
    exfalso
    have h0 := hw 0 (Int.le_refl _)
    rw [Int.add_zero, h34] at h0
    rcases hx with ⟨_, rfl⟩ | ⟨_, rfl⟩ | ⟨_, rfl⟩ <;> exact absurd (h0 (by decide)) (by decide)
  | list e ks K I P hc hL => exfalso; rcases hc with ⟨hc, _⟩ | ⟨hc, _⟩ <;> omega
  | num h _ _ => exact absurd h34 h.1

set_option maxRecDepth 100000 in
set_option maxHeartbeats 8000000 in
theorem append_law (s : ByteArray) (w : World) (hs : s.size ≤ 140737488351232) (hT : HexTab w) (hU : Lib.Utf8Tabs 1 2 w) :
    Calls Tryd.prog 3 #[.string s] w fun e w' => e = .returned (.bool true) ∧ Below w.heap.size w w' := by
  by_cases c1 : (2147483647 : Int) < (s.size : Int)
  · clear hT hU
    go_enter Tryd.func3, Tryd.ntmps3
    go_wp2_with fail
    go_ret
    exact ⟨rfl, Below.refl _ _⟩
  obtain ⟨ku, r, hku, hru⟩ := utf8_is (s := s) (by omega)
  have HK := Aside0.mk hku
  have HRU := Aside0.mk hru
  have g1 : 0 < w.heap.size := World.block_lt_of_cell? w _ (hT 0 (by decide))
  have g2 : 1 < w.heap.size := World.block_lt_of_cell? w _ (hU.1 0 (by decide))
  have g3 : 2 < w.heap.size := World.block_lt_of_cell? w _ (hU.2 0 (by decide)).1
  have HG := Aside0.mk (And.intro g1 (And.intro g2 g3))
  have HT := Aside0.mk hT
  have HU := Aside0.mk hU
  clear hku hru hT hU g1 g2 g3
  go_enter Tryd.func3, Tryd.ntmps3
  go_wp2_with fail
  refine (spec_UTF8.calls ku s r _ HK.out).mono ?_
  rintro e w1 ⟨rfl, hb1⟩
  have HB1 := Aside0.mk hb1
  clear hb1 HK
  cases r with
  | false =>
    go_wp2_with fail
    go_ret
    exact ⟨rfl, HB1.out⟩
  | true =>
    by_cases c2 : (5000 : Int) < (s.size : Int)
    · go_wp2_with fail
      go_ret
      exact ⟨rfl, HB1.out⟩
    · obtain ⟨l, hE⟩ := enc_of (HRU.out rfl)
      have HA := Aside0.mk (string_walk s (by omega) l hE w1 (HT.out.below HB1.out HG.out.1) (tabs_below HU.out HB1.out HG.out.2.1 HG.out.2.2))
      obtain ⟨k, hk⟩ : ∃ k : Nat, 700000 ≤ k := ⟨700000, Nat.le_refl _⟩
      obtain ⟨T, hread, t1, t2, t3⟩ := read_enc (by omega) hE hk
      have hz := (enc_bytes hE (Int.le_refl _)).2
      have hz2 : (strOfNums (34 :: l ++ [34])).size ≤ 65536 := by rw [strOfNums_size]; simp; omega
      have HR := Aside0.mk (fun W => read_any k _ T true W hz2 hread)
      have HTT := Aside0.mk (And.intro t1 (And.intro t2 t3))
      clear hE hread t1 t2 t3 hz hz2 hk
      obtain ⟨o, ho⟩ : ∃ o, strOfNums (34 :: l ++ [34]) = o := ⟨_, rfl⟩
      rw [ho] at HA HR
      clear ho
      go_wp2_with fail
      refine HA.out.mono ?_
      rintro e w2 ⟨rfl, hb2⟩
      have HB2 := Aside0.mk hb2
      clear hb2 HA
      go_wp2_with fail
      refine (HR.out _).mono ?_
      rintro e w3 ⟨kv, iv, rfl, hT3, hb3⟩
      obtain ⟨A5, n5, c5, A6, n6, c6, rfl, rfl⟩ : ∃ A5 n5 c5 A6 n6 c6, kv = .slice A5 n5 c5 ∧ iv = .slice A6 n6 c6 := Tl.tree_slices hT3
      have HB3 := Aside0.mk hb3
      have e1 := HTT.out.1
      have e2 := HTT.out.2.1
      have e3 := HTT.out.2.2
      clear hT3 hb3 HR HTT
      rw [e1, e2, e3]
      clear e1 e2 e3
      go_wp2_with fail
      go_ret
      exact ⟨rfl, below_alloc (below_then HB1.out HB1.out.size (below_then HB2.out HB2.out.size HB3.out)) _⟩
end Go.Proofs.YteehmhakcdaljaaDoor.Ul
