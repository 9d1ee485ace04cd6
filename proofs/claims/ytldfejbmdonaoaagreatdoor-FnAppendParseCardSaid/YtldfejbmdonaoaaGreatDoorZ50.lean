/- Joined by a program of mine from texts of this claim: Ap. -/
import Derived.Test.YtldfejbmdonaoaaGreatDoorZ25
import Derived.Test.YtldfejbmdonaoaaGreatDoorZ38
import Derived.Test.YtldfejbmdonaoaaGreatDoorZ44
import Derived.Test.YtldfejbmdonaoaaGreatDoorZ49
import Derived.Deep.RegionHeld3
namespace Go.Proofs.YtldfejbmdonaoaaGreatDoor.Ap
open Go.RowKit YtldfejbmdonaoaaGreatDoorW.PrintWords YtldfejbmdonaoaaGreatDoorW.PrintLast YtldfejbmdonaoaaGreatDoorW.PrintMore Tw Tf Tp Te Tg Ti Tr Vt Uu Ua Uw Sp PFnAppendParse
set_option linter.unusedVariables false
set_option linter.unusedSimpArgs false
theorem enc_facts {s : ByteArray} (hs : (s.size : Int) ≤ 5000) {l : List Int} (hE : Enc s 0 l) {o : ByteArray} (ho : strOfNums (34 :: l ++ [34]) = o) :
    (o.size : Int) ≤ 60000 ∧ 2 ≤ (o.size : Int) ∧ bt o 0 = 34 ∧ strR o 1 = some (bytesOf s, true, (o.size : Int)) ∧ runEnd ws o 0 = 0 ∧
    ∃ T, treeF 700001 o 0 false = some (T, o, (o.size : Int), false) ∧ T.kind = 3 ∧ T.raw = o := by
  obtain ⟨hb, hl⟩ := enc_bytes hE (Int.le_refl _)
  have hbytes : ∀ x ∈ (34 :: l ++ [34]), 0 ≤ x ∧ x ≤ 255 := by
    intro x hx
    simp only [List.cons_append, List.mem_cons, List.mem_append, List.not_mem_nil, or_false] at hx
    rcases hx with rfl | hx | rfl
    · decide
    · exact hb x hx
    · decide
  have hH : Here (strOfNums (34 :: l ++ [34])) 0 (34 :: (l ++ [34])) := here_all hbytes
  have hz : (strOfNums (34 :: l ++ [34])).size = l.length + 2 := by rw [strOfNums_size]; simp
  rw [ho] at hH hz
  have h34 : bt o 0 = 34 := Here.head (l := l ++ [34]) hH
  have hR := read_back hE (Int.le_refl _) (0 + 1) (Here.tail (x := 34) (l := l ++ [34]) hH)
  have hr0 : runEnd ws o 0 = 0 := runEnd_stop (.inr (by rw [h34]; decide))
  obtain ⟨T, ok, hread, j, b, ht, j1, j2, hok⟩ := Rd.read_is (s := o) (by omega) (k := 700001) (by omega)
  rw [hr0] at ht j1
  have hA := t_str (by omega) (Int.le_refl _) (by omega) (by omega) ht h34
  rw [hR] at hA
  obtain ⟨hbf, hj⟩ := hA
  subst hbf
  have hj2 : j = (o.size : Int) := by rw [hj, hz]; omega
  subst hj2
  refine ⟨by omega, by omega, h34, ?_, hr0, T, ht, ?_⟩
  · rw [← hj] at hR
    simpa using hR
  obtain ⟨_, hti⟩ := tree_inv (by omega) (Int.le_refl _) (by omega) (by omega) ht
  cases hti with
  | str l' p hc hR' =>
    refine ⟨rfl, ?_⟩
    show o.extract (Int.toNat 0) ((o.size : Int)).toNat = o
    rw [Int.toNat_natCast]
    exact ByteArray.extract_zero_size
  | word kind x hx hw _ =>
    exfalso
    have h0 := hw 0 (Int.le_refl _)
    rw [Int.add_zero, h34] at h0
    rcases hx with ⟨_, rfl⟩ | ⟨_, rfl⟩ | ⟨_, rfl⟩ <;> exact absurd (h0 (by decide)) (by decide)
  | list e ks K I P hc hL => exfalso; rcases hc with ⟨hc, _⟩ | ⟨hc, _⟩ <;> omega
  | num h _ _ => exact absurd h34 h.1
theorem str_of (k : Int) (a b : ByteArray) (c : Nat) (d : Int) (w : World) : (Instr.field 35 (.agg #[.int .i64 k, .string a, .string b, .float .f64 c, .int .i64 d, .bool true]) 2).run Tryz.prog w = .ok (.string b) w := by kernel_rfl
set_option maxRecDepth 100000 in
set_option maxHeartbeats 8000000 in
theorem parse_law (s : ByteArray) (w : World) (hs : s.size ≤ 140737488351232) (hT : HexTab w) (hU : Lib.Utf8Tabs 1 2 w) :
    Calls Tryz.prog 6 #[.string s] w fun e w' => e = .returned (.bool true) ∧ Below w.heap.size w w' := by
  by_cases c1 : (2147483647 : Int) < (s.size : Int)
  · clear hT hU
    go_enter Tryz.func6, Tryz.ntmps6
    go_wp2_with fail
    go_ret
    exact ⟨rfl, Below.refl _ _⟩
  obtain ⟨ku, r, hku, hru⟩ := utf8_is (s := s) (by omega)
  have HK := Aside0.mk hku
  have HRU := Aside0.mk hru
  have g1 : 0 < w.heap.size := World.block_lt_of_cell? w _ (hT 0 (by decide))
  have g2 : 1 < w.heap.size := World.block_lt_of_cell? w _ (hU.1 0 (by decide))
  have g3 : 2 < w.heap.size := World.block_lt_of_cell? w _ (hU.2 0 (by decide)).1
  have HG := Aside0.mk (And.intro g1 (And.intro g2 g3))
  have HT := Aside0.mk hT
  have HU := Aside0.mk hU
  clear hku hru hT hU g1 g2 g3
  go_enter Tryz.func6, Tryz.ntmps6
  go_wp2_with fail
  refine (spec_UTF8.calls ku s r _ HK.out).mono ?_
  rintro e w1 ⟨rfl, hb1⟩
  have HB1 := Aside0.mk hb1
  clear hb1 HK
  cases r with
  | false =>
    go_wp2_with fail
    go_ret
    exact ⟨rfl, HB1.out⟩
  | true =>
    by_cases c2 : (5000 : Int) < (s.size : Int)
    · go_wp2_with fail
      go_ret
      exact ⟨rfl, HB1.out⟩
    · obtain ⟨l, hE⟩ := enc_of (HRU.out rfl)
      have HA := Aside0.mk (Ul.string_walk s (by omega) l hE w1 (HT.out.below HB1.out HG.out.1) (tabs_below HU.out HB1.out HG.out.2.1 HG.out.2.2))
      obtain ⟨o, ho⟩ : ∃ o, strOfNums (34 :: l ++ [34]) = o := ⟨_, rfl⟩
      obtain ⟨hz, hz2, h34, hR, hr0, T, ht, hk, hraw⟩ := enc_facts (by omega) hE ho
      have HV := Aside0.mk (Vv.ivalid_walk o (by omega) 700001 (by omega) T (o.size : Int) false true (by rw [hr0]; exact ht) (by rw [hr0]; omega) (by omega) (by rw [runEnd_stop (.inl (Int.le_refl _))]; simp))
      have HP := Aside0.mk (Gv.impl_str o (by omega) 0 (Int.le_refl _) (fun q h1 h2 => by omega) h34 hR)
      have hsq : ∃ m, impl_Squash.f m (o ++ (⟨#[93]⟩ : ByteArray)) = some o := by
        have h := Ss.squash_ok (rest := (⟨#[93]⟩ : ByteArray)) (by omega) (by decide) (k := 700000) (Int.le_refl _) (by omega) (by omega) ht (.inr hk)
        rw [hraw] at h
        exact h
      obtain ⟨m, hm⟩ := hsq
      have HM := Aside0.mk hm
      have hsum : o.size + 1 ≤ 9223372036854775807 := by omega
      have HADD := Aside0.mk (fun w => run_string_add_sum (P := Tryz.prog) w o (⟨#[93]⟩ : ByteArray) hsum)
      rw [ho] at HA
      clear ho hE hz hz2 h34 hR hr0 ht hk hraw hm hsum
      go_wp2_with fail
      refine HA.out.mono ?_
      rintro e w2 ⟨rfl, hb2⟩
      have HB2 := Aside0.mk (below_then HB1.out HB1.out.size hb2)
      clear hb2 HA
      go_wp2_with fail
      refine (HV.out _).mono ?_
      rintro e w3 ⟨rfl, hb3⟩
      have HB3 := Aside0.mk (below_then HB2.out HB2.out.size hb3)
      clear hb3 HV
      go_wp2_with fail
      refine (HP.out _).mono ?_
      rintro e w4 ⟨pk, pa, pb, pc, pd, rfl, hp, hb4⟩
      have hpb : pb = s := by rw [hp.2.2.1 trivial, Ul.strOfNums_bytesOf]
      subst hpb
      have HB4 := Aside0.mk (below_then HB3.out HB3.out.size hb4)
      have hadd := HADD.out
      have hfd := fun w => str_of pk pa pb pc pd w
      clear hb4 HP hp
      go_wp2_with fail
      refine (impl_Squash.calls m _ _ _ HM.out).mono ?_
      rintro e w5 ⟨rfl, nq, rfl⟩
      go_wp2
      go_ret
      exact ⟨rfl, pw_below_drewN HB4.out nq⟩
end Go.Proofs.YtldfejbmdonaoaaGreatDoor.Ap