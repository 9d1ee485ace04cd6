/- Joined by a program of mine from texts of this claim: Qp. -/
import Derived.Test.YtldfejbmdonaoaaGreatDoorZB39
import Derived.Deep.LoopGhost
import Derived.BigQuiet
namespace Go.Proofs.YtldfejbmdonaoaaGreatDoor.Qp
open Go.RowKit YtldfejbmdonaoaaGreatDoorW.PrintWords YtldfejbmdonaoaaGreatDoorW.PrintLast YtldfejbmdonaoaaGreatDoorW.PrintMore Tw
set_option linter.unusedVariables false
set_option linter.unusedSimpArgs false
def PlainIs (T : JT) : Prop := T.pairs = true ∧ (∀ k ∈ T.keys, 0 < k.size) ∧ T.keys.Nodup
def PlainOk (w : World) (ok : Nat → Prop) (cs : List Value) (T : JT) : Prop :=
  ∀ W, w.heap.size ≤ W.heap.size → (∀ q, ok q → q < w.heap.size → W.heap[q]? = w.heap[q]?) → Calls Tryz.prog 11 #[.agg cs.toArray] W fun e w' => ∃ q, e = .returned (.bool q) ∧ (q = true → PlainIs T) ∧ Below W.heap.size W w'
theorem ne_facts {a b : ByteArray} (h : a ≠ b) : (a == b) = false ∧ decide (a = b) = false ∧ (a.toList == b.toList) = false := by
  have h1 : (a.toList == b.toList) = false := by
    rw [beq_eq_false_iff_ne]
    intro e
    rw [ByteArray.toList_eq, ByteArray.toList_eq] at e
    exact h (WideShapes.bytes_inj e)
  exact ⟨by rw [beq_toListBytes]; exact h1, decide_eq_false h, h1⟩
theorem empty_facts {a : ByteArray} (h : 0 < a.size) : a.toList.isEmpty = false := by
  rw [← decide_eq_emptyBytes]
  refine decide_eq_false ?_
  rintro rfl
  exact absurd h (by decide)
theorem nodup_take {K : List ByteArray} {j : Nat} (hj : j < K.length) (h : (K.take j).Nodup) (hn : ∀ p (hp : p < j), K[p]'(by omega) ≠ K[j]) : (K.take (j + 1)).Nodup := by
  rw [List.take_add_one, List.getElem?_eq_getElem hj]
  simp only [Option.toList_some]
  rw [List.nodup_append]
  refine ⟨h, by simp, fun a ha b hb => ?_⟩
  simp only [List.mem_singleton] at hb
  subst hb
  obtain ⟨p, hp, rfl⟩ := List.mem_iff_getElem.mp ha
  rw [List.length_take] at hp
  rw [List.getElem_take]
  exact hn p (by omega)
theorem cells_inv7 {w : World} {ok : Nat → Prop} {cs : List Value} {T : JT} (h : TreeAt w ok cs T) : ∃ A5 n5 c5 A6 n6 c6, cs = cells7 T.kind T.raw T.place T.str T.pairs (.slice A5 n5 c5) (.slice A6 n6 c6) := by
  cases h with
  | mk k r a s p kv iv K I cs hk hc hi =>
    obtain ⟨A, c, rfl, _⟩ := hk
    obtain ⟨A', c', rfl, _⟩ := hc
    exact ⟨_, _, _, _, _, _, rfl⟩
set_option maxRecDepth 100000 in
set_option maxHeartbeats 8000000 in
theorem plain_walk (w : World) (ok : Nat → Prop) (k : Int) (r : ByteArray) (a : Int) (s : ByteArray) (p : Bool) (kv iv : Value) (K : List ByteArray) (I : List JT) (cs : Nat → List Value) (hK : StrsAt w ok kv K) (hc : CellsAt w ok iv I.length cs) (hi : ∀ j (h : j < I.length), TreeAt w ok (cs j) I[j])
    (ih : ∀ j (h : j < I.length), PlainOk w ok (cs j) I[j]) : PlainOk w ok (cells7 k r a s p kv iv) (.mk k r a s p K I) := by
  intro W hsz hkeep
  obtain ⟨A5, c5, rfl, hcap, hKc⟩ := hK
  obtain ⟨A6, c6, rfl, hmx, h7, hIc⟩ := hc
  have HKEEP := Aside0.mk (And.intro hsz hkeep)
  have HKC := Aside0.mk hKc
  have HIC := Aside0.mk (And.intro h7 (And.intro hIc (And.intro hi ih)))
  have HLEN := Aside0.mk (And.intro hcap hmx)
  clear hsz hkeep hKc h7 hIc hi ih hcap hmx
  show Calls Tryz.prog 11 #[.agg #[.int .i64 k, .string r, .int .i64 a, .string s, .bool p, .slice A5 K.length c5, .slice A6 I.length c6]] W _
  cases p with
  | false =>
    go_enter Tryz.func11, Tryz.ntmps11
    go_wp2_with fail
    go_ret
    exact ⟨false, rfl, fun h => absurd h (by decide), (Below.refl _ _).alloc (Nat.le_refl _) _⟩
  | true =>
    have HB0 := Aside0.mk ((Below.refl W.heap.size W).alloc (Nat.le_refl _) (.cells #[.int .i64 k, .string r, .int .i64 a, .string s, .bool true, .slice A5 K.length c5, .slice A6 I.length c6] 25))
    have HX0 := Aside0.mk (heap_alloc_new W (.cells #[.int .i64 k, .string r, .int .i64 a, .string s, .bool true, .slice A5 K.length c5, .slice A6 I.length c6] 25))
    go_enter Tryz.func11, Tryz.ntmps11
    go_wp2_with fail
    obtain ⟨tb, htb⟩ : ∃ x, W.heap.size = x := ⟨_, rfl⟩
    obtain ⟨W1, hW1⟩ : ∃ W1, W.alloc (.cells #[.int .i64 k, .string r, .int .i64 a, .string s, .bool true, .slice A5 K.length c5, .slice A6 I.length c6] 25) = W1 := ⟨_, rfl⟩
    rw [hW1] at HB0 HX0 ⊢
    rw [htb] at HX0 ⊢
    have HKW : Aside0 (∀ q, ok q → q < w.heap.size → W1.heap[q]? = w.heap[q]?) := ⟨fun q h1 h2 => (HB0.out.block q (by have := HKEEP.out.1; omega)).trans (HKEEP.out.2 q h1 h2)⟩
    have HTB := Aside0.mk htb
    clear hW1 htb
    have x5 := (blk_cell HX0.out 5).trans (rfl : _ = some (Value.slice A5 K.length c5))
    go_loopg [15] K.length (fun kq x15 wr => ∃ (j : Nat), x15 = .int .i64 (j : Int) ∧ Aside0 (j ≤ K.length ∧ kq ≥ K.length - j) ∧ Aside0 ((∀ m (hm : m < K.length), m < j → 0 < K[m].size) ∧ (K.take j).Nodup) ∧ wr = W1)
    case atStart => exact ⟨0, rfl, ⟨by omega⟩, ⟨fun m _ hm => absurd hm (Nat.not_lt_zero m), by simp⟩, rfl⟩
    case round =>
      obtain ⟨j, rfl, HJ, HG, hwr⟩ := hrel
      subst wr
      have HCAP : Aside0 (K.length ≤ c5 ∧ c5 ≤ 9223372036854775807) := ⟨HLEN.out.1⟩
      by_cases hj : j < K.length
      · obtain ⟨q, hA5, hq, hcell⟩ := HKC.out (by omega)
        subst hA5
        have hkc : ∀ m (hm : m < K.length), W1.cell? ⟨q, m, none⟩ = some (.string K[m]) := fun m hm => cell_same (hcell m hm) (HKW.out q hq (lt_of_cell (hcell m hm)))
        have HC := Aside0.mk hkc
        have xk := hkc j hj
        have q0 : (0 : Int) ≤ (j : Int) := Int.natCast_nonneg j
        have q1 : ((j : Int) < (K.length : Int)) = True := eq_true (by omega)
        have q2 : decide ((j : Int) < (K.length : Int)) = true := decide_eq_true (by omega)
        have q3 : (j < K.length) = True := eq_true hj
        have q4 : decide (j < K.length) = true := decide_eq_true hj
        have q5 : (j : Int) ≤ 9223372036854775806 := by have := HCAP.out; omega
        have q6 : ((j : Int) ≤ (c5 : Int)) = True := eq_true (by have := HCAP.out; omega)
        have q7 : (j ≤ c5) = True := eq_true (by have := HCAP.out; omega)
        have q8 : ((K.length : Int) ≤ (c5 : Int)) = True := eq_true (by have := HCAP.out; omega)
        have HJ2 := Aside0.mk hj
        by_cases hk0 : K[j].size = 0
        · have he : K[j] = (⟨#[]⟩ : ByteArray) := Bt.ext_bt (by rw [hk0]; rfl) (fun x hx => by omega)
          rw [he] at xk
          clear hk0 he hkc hcell hj
          go_wp2_with fail
          go_ret
          exact ⟨false, rfl, fun h => absurd h (by decide), HB0.out⟩
        · have hpos : 0 < K[j].size := by omega
          have hem := empty_facts hpos
          obtain ⟨kj, hkj⟩ : ∃ x, K[j] = x := ⟨_, rfl⟩
          rw [hkj] at xk hem
          have HKJ := Aside0.mk (show ∃ h : j < K.length, K[j] = kj from ⟨hj, hkj⟩)
          have HPOS : Aside0 (0 < kj.size) := ⟨by rw [← hkj]; exact hpos⟩
          clear hk0 hpos hkj hkc hcell hj
          go_wp2_with fail
          go_loopg [27] j (fun kq x27 wr2 => ∃ (m : Nat), x27 = .int .i64 (m : Int) ∧ Aside0 (m ≤ j ∧ kq ≥ j - m) ∧ Aside0 (∀ p (hp : p < K.length), p < m → K[p] ≠ kj) ∧ wr2 = W1)
          case atStart => exact ⟨0, rfl, ⟨by omega⟩, ⟨fun p _ h => absurd h (Nat.not_lt_zero p)⟩, rfl⟩
          case round =>
            obtain ⟨m, rfl, HM, HNE, hwr⟩ := hrel
            subst wr
            by_cases hm : m < j
            · have ym := HC.out m (by have := HJ2.out; omega)
              have r0 : (0 : Int) ≤ (m : Int) := Int.natCast_nonneg m
              have r1 : ((m : Int) < (j : Int)) = True := eq_true (by omega)
              have r2 : decide ((m : Int) < (j : Int)) = true := decide_eq_true (by omega)
              have r3 : (m < j) = True := eq_true hm
              have r4 : decide (m < j) = true := decide_eq_true hm
              have r5 : (m : Int) ≤ 9223372036854775806 := by omega
              have HM2 := Aside0.mk hm
              obtain ⟨km, hkm⟩ : ∃ x, K[m]'(by have := HJ2.out; omega) = x := ⟨_, rfl⟩
              rw [hkm] at ym
              have HKM := Aside0.mk (show ∃ h : m < K.length, K[m] = km from ⟨by have := HJ2.out; omega, hkm⟩)
              clear hm hkm
              by_cases hee : km = kj
              · subst hee
                go_wp2_with fail
                go_ret
                exact ⟨false, rfl, fun h => absurd h (by decide), HB0.out⟩
              · obtain ⟨e1, e2, e3⟩ := ne_facts hee
                have HEE := Aside0.mk hee
                clear hee
                go_wp2_with fail
                go_roundg (j - (m + 1))
                case measure => have := HM.out; have := HM2.out; omega
                case rel =>
                  refine ⟨m + 1, (by first | rfl | (congr 1; omega)), ⟨by have := HM.out; have := HM2.out; omega⟩, ⟨fun p hp h => ?_⟩, rfl⟩
                  by_cases e : p = m
                  · subst e
                    obtain ⟨_, h2⟩ := HKM.out
                    rw [h2]
                    exact HEE.out
                  · exact HNE.out p hp (by omega)
            · have r1 : ((m : Int) < (j : Int)) = False := eq_false (by omega)
              have r2 : decide ((m : Int) < (j : Int)) = false := decide_eq_false (by omega)
              have r3 : (m < j) = False := eq_false hm
              have r4 : decide (m < j) = false := decide_eq_false hm
              have HM2 := Aside0.mk hm
              clear hm
              go_wp2_with fail
              go_roundg (K.length - (j + 1))
              case measure => have := HJ.out; have := HJ2.out; omega
              case rel =>
                refine ⟨j + 1, (by first | rfl | (congr 1; omega)), ⟨by have := HJ.out; have := HJ2.out; omega⟩, ⟨fun x hx h => ?_, ?_⟩, rfl⟩
                · by_cases e : x = j
                  · subst e
                    obtain ⟨_, h2⟩ := HKJ.out
                    rw [h2]
                    exact HPOS.out
                  · exact HG.out.1 x hx (by omega)
                · obtain ⟨h1, h2⟩ := HKJ.out
                  exact nodup_take h1 HG.out.2 (fun x hx => by rw [h2]; exact HNE.out x (by omega) (by have := HM2.out; omega))
      · have q1 : ((j : Int) < (K.length : Int)) = False := eq_false (by omega)
        have q2 : decide ((j : Int) < (K.length : Int)) = false := decide_eq_false (by omega)
        have q3 : (j < K.length) = False := eq_false hj
        have q4 : decide (j < K.length) = false := decide_eq_false hj
        have HKS : Aside0 (PlainIs (.mk k r a s true K I)) := ⟨rfl, fun x hx => by
          obtain ⟨m, hm, rfl⟩ := List.mem_iff_getElem.mp hx
          have hm2 : m < K.length := hm
          exact HG.out.1 m hm2 (by omega), by
          have h := HG.out.2
          rw [List.take_of_length_le (by omega)] at h
          exact h⟩
        have x6 := (blk_cell HX0.out 6).trans (rfl : _ = some (Value.slice A6 I.length c6))
        have HIM : Aside0 (I.length ≤ 9223372036854775807) := ⟨HLEN.out.2⟩
        clear hj
        go_wp2_with fail
        go_loopg [39] I.length (fun kq x39 wr2 => ∃ (m : Nat), x39 = .int .i64 (m : Int) ∧ Aside0 (m ≤ I.length ∧ kq ≥ I.length - m) ∧ Aside0 (Below W1.heap.size W1 wr2))
        case atStart => exact ⟨0, rfl, ⟨by omega⟩, ⟨Below.refl _ _⟩⟩
        case round =>
          clear x5 x6
          obtain ⟨m, rfl, HM, HBW⟩ := hrel
          by_cases hm : m < I.length
          · obtain ⟨q, hA6, hq, hcc⟩ := HIC.out.2.1 (by omega)
            subst hA6
            have h7 := HIC.out.1 m hm
            have hti := HIC.out.2.2.1 m hm
            have hIH := Aside0.mk (HIC.out.2.2.2 m hm)
            obtain ⟨A7, n7, c7, A8, n8, c8, ecs⟩ := cells_inv7 hti
            have hcw := hcc m hm
            rw [ecs] at hcw hIH
            obtain ⟨Tm, hTm⟩ : ∃ x, I[m] = x := ⟨_, rfl⟩
            rw [hTm] at hcw hIH
            have hqw : q < w.heap.size := lt_of_cell (hcw 0 (by simp [cells7]))
            have hqr : wr.heap[q]? = w.heap[q]? := (HBW.out.block q (by have := HB0.out.size; have := HKEEP.out.1; omega)).trans (HKW.out q hq hqw)
            have y0 := cell_same (hcw 0 (by simp [cells7])) hqr
            have y1 := cell_same (hcw 1 (by simp [cells7])) hqr
            have y2 := cell_same (hcw 2 (by simp [cells7])) hqr
            have y3 := cell_same (hcw 3 (by simp [cells7])) hqr
            have y4 := cell_same (hcw 4 (by simp [cells7])) hqr
            have y5 := cell_same (hcw 5 (by simp [cells7])) hqr
            have y6 := cell_same (hcw 6 (by simp [cells7])) hqr
            simp only [cells7, List.getElem_cons_zero, List.getElem_cons_succ, Nat.add_zero] at y0 y1 y2 y3 y4 y5 y6
            have q0 : (0 : Int) ≤ (m : Int) := Int.natCast_nonneg m
            have q1 : ((m : Int) < (I.length : Int)) = True := eq_true (by omega)
            have q2 : decide ((m : Int) < (I.length : Int)) = true := decide_eq_true (by omega)
            have q3 : (m < I.length) = True := eq_true hm
            have q4 : decide (m < I.length) = true := decide_eq_true hm
            have q5 : (m : Int) ≤ 9223372036854775806 := by have := HIM.out; omega
            have HM2 := Aside0.mk hm
            clear hm hTm hqr hqw hcw ecs hti h7 hcc hq
            go_wp2_with fail
            have HB2 : Aside0 (Below W1.heap.size W1 (wr.alloc (.cells #[.int .i64 Tm.kind, .string Tm.raw, .int .i64 Tm.place, .string Tm.str, .bool Tm.pairs, .slice A7 n7 c7, .slice A8 n8 c8] 25))) := ⟨below_alloc HBW.out _⟩
            have HKW2 : Aside0 (∀ q, ok q → q < w.heap.size → (wr.alloc (.cells #[.int .i64 Tm.kind, .string Tm.raw, .int .i64 Tm.place, .string Tm.str, .bool Tm.pairs, .slice A7 n7 c7, .slice A8 n8 c8] 25)).heap[q]? = w.heap[q]?) := ⟨fun q h1 h2 => (HB2.out.block q (by have := HB0.out.size; have := HKEEP.out.1; omega)).trans (HKW.out q h1 h2)⟩
            refine (hIH.out _ (by have := HB0.out.size; have := HKEEP.out.1; have := HB2.out.size; omega) HKW2.out).mono ?_
            rintro e w5 ⟨qq, rfl, _, hbe⟩
            have HB5 := Aside0.mk (below_then HB2.out HB2.out.size hbe)
            clear hbe y0 y1 y2 y3 y4 y5 y6 hIH
            cases qq with
            | false =>
              go_wp2_with fail
              go_ret
              exact ⟨false, rfl, fun h => absurd h (by decide), HB0.out.trans (HB5.out.mono (by have := HB0.out.size; omega))⟩
            | true =>
              go_wp2_with fail
              go_roundg (I.length - (m + 1))
              case measure => have := HM.out; have := HM2.out; omega
              case rel => exact ⟨m + 1, (by first | rfl | (congr 1; omega)), ⟨by have := HM.out; have := HM2.out; omega⟩, ⟨HB5.out⟩⟩
          · have r1 : ((m : Int) < (I.length : Int)) = False := eq_false (by omega)
            have r2 : decide ((m : Int) < (I.length : Int)) = false := decide_eq_false (by omega)
            have r3 : (m < I.length) = False := eq_false hm
            have r4 : decide (m < I.length) = false := decide_eq_false hm
            clear hm
            go_wp2_with fail
            go_ret
            exact ⟨true, rfl, fun _ => HKS.out, HB0.out.trans (HBW.out.mono (by have := HB0.out.size; omega))⟩
theorem plain_all {w : World} {ok : Nat → Prop} {cs : List Value} {T : JT} (h : TreeAt w ok cs T) : PlainOk w ok cs T := by
  induction h with
  | mk k r a s p kv iv K I cs hk hc hi ih => exact plain_walk w ok k r a s p kv iv K I cs hk hc hi ih
end Go.Proofs.YtldfejbmdonaoaaGreatDoor.Qp