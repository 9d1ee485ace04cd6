/- Joined by a program of mine from texts of this claim: Rd, Tm. -/
import Derived.Test.YtldfejbmdonaoaaDoorZ45
import Derived.Test.YtldfejbmdonaoaaDoorZ47
import Derived.Test.YtldfejbmdonaoaaDoorZ31
namespace Go.Proofs.YtldfejbmdonaoaaDoor.Rd
open Go.RowKit YtldfejbmdonaoaaDoorW.PrintWords YtldfejbmdonaoaaDoorW.PrintLast YtldfejbmdonaoaaDoorW.PrintMore Tw Tf Tp Te Tg Ti Tr Sp
set_option linter.unusedVariables false
set_option linter.unusedSimpArgs false
theorem read_is {s : ByteArray} (hs : (s.size : Int) ≤ 65536) {k : Nat} (hk : 600000 ≤ k) : ∃ T ok, readF k s = some (T, ok) ∧
    ∃ j b, treeF k s (runEnd ws s 0) false = some (T, s, j, b) ∧ runEnd ws s 0 ≤ j ∧ j ≤ (s.size : Int) ∧ ok = (!b && runEnd ws s j == (s.size : Int)) := by
  have hs' : (s.size : Int) ≤ 2147483647 := by omega
  have hb := runEnd_le (p := ws) (s := s) (i := 0) (by omega)
  obtain ⟨T, j, b, e, j1, j2, _⟩ := (all_read hs k).1 (runEnd ws s 0) false (by omega) hb.2 (by omega)
  refine ⟨T, !b && runEnd ws s j == (s.size : Int), ?_, j, b, e, j1, j2, rfl⟩
  unfold readF
  rw [blank_eq hs' (by omega) false (by omega)]
  simp only [Option.bind_some]
  rw [e]
  simp only [Option.bind_some]
  rw [blank_eq hs' (by omega) b (by omega)]
  rfl
set_option maxRecDepth 100000 in
set_option maxHeartbeats 8000000 in
theorem read_long (s : ByteArray) (w : World) (hs : 65536 < (s.size : Int)) :
    Calls Tryd.prog 7 #[.string s] w fun e w' => e = .returned (.tuple #[.agg #[.int .i64 0, .string ⟨#[]⟩, .int .i64 0, .string ⟨#[]⟩, .bool false, .slice none 0 0, .slice none 0 0], .bool false]) ∧ Below w.heap.size w w' := by
  have hy := heap_alloc_new w (.cells #[.int .i64 0, .string ⟨#[]⟩, .int .i64 0, .string ⟨#[]⟩, .bool false, .slice none 0 0, .slice none 0 0] 25)
  have r0 := (blk_cell hy 0).trans (rfl : _ = some (Value.int .i64 0))
  have r1 := (blk_cell hy 1).trans (rfl : _ = some (Value.string ⟨#[]⟩))
  have r2 := (blk_cell hy 2).trans (rfl : _ = some (Value.int .i64 0))
  have r3 := (blk_cell hy 3).trans (rfl : _ = some (Value.string ⟨#[]⟩))
  have r4 := (blk_cell hy 4).trans (rfl : _ = some (Value.bool false))
  have r5 := (blk_cell hy 5).trans (rfl : _ = some (Value.slice none 0 0))
  have r6 := (blk_cell hy 6).trans (rfl : _ = some (Value.slice none 0 0))
  go_enter Tryd.func7, Tryd.ntmps7
  go_wp2_with fail
  refine bodyPost_ret (v := .tuple #[.agg #[.int .i64 0, .string ⟨#[]⟩, .int .i64 0, .string ⟨#[]⟩, .bool false, .slice none 0 0, .slice none 0 0], .bool false]) (by simp [results, Tryd.results7, go_sem, r0, r1, r2, r3, r4, r5, r6]) rfl ?_
  exact ⟨rfl, below_alloc (Below.refl _ _) _⟩
end Go.Proofs.YtldfejbmdonaoaaDoor.Rd
namespace Go.Proofs.YtldfejbmdonaoaaDoor.Tm
open Go.RowKit YtldfejbmdonaoaaDoorW.PrintWords YtldfejbmdonaoaaDoorW.PrintLast YtldfejbmdonaoaaDoorW.PrintMore Tp
set_option linter.unusedVariables false
set_option linter.unusedSimpArgs false
theorem ws_iff {c : Int} : ws c = true ↔ c = 32 ∨ c = 9 ∨ c = 10 ∨ c = 13 := by simp [ws, or_assoc]
theorem ext0_bt {s : ByteArray} {k : Nat} (hk : k ≤ s.size) {x : Int} (h0 : 0 ≤ x) (h1 : x < k) : bt (s.extract 0 k) x = bt s x := by
  have := Bt.bt_extract (s := s) (a := 0) (b := k) hk (j := x.toNat) (by omega)
  rw [show ((x.toNat : Nat) : Int) = x by omega, show ((0 + x.toNat : Nat) : Int) = x by omega] at this
  exact this
theorem ext0_size {s : ByteArray} {k : Nat} (hk : k ≤ s.size) : (s.extract 0 k).size = k := by rw [ByteArray.size_extract]; omega
theorem ext0_ext {s : ByteArray} {k j : Nat} (hj : j ≤ k) : (s.extract 0 k).extract 0 j = s.extract 0 j := by
  rw [ByteArray.extract_extract]
  congr 1
  omega
def TrimPost (s : ByteArray) (m : Nat) (w : World) (e : Ending) (w' : World) : Prop := e = .returned (.string (s.extract 0 m)) ∧ Drawn0 w w'
set_option maxRecDepth 100000 in
set_option maxHeartbeats 4000000 in
theorem trimmed_walk (s : ByteArray) (m : Nat) (w : World) (hs : (s.size : Int) ≤ 70000) (hm : m ≤ s.size) (hws : ∀ x : Int, m ≤ x → x < (s.size : Int) → ws (bt s x) = true) (hst : 0 < m → ws (bt s ((m : Int) - 1)) = false) :
    Calls Tryd.prog 9 #[.string s] w (TrimPost s m w) := by
  have HS := Aside0.mk hs
  have HM := Aside0.mk hm
  have HW := Aside0.mk hws
  have HST := Aside0.mk hst
  have HE := Aside0.mk (Bt.extract_whole s)
  clear hs hm hws hst
  go_enter Tryd.func9, Tryd.ntmps9
  go_wp2_with fail
  go_loopg [0] 70001 (fun kq x0 wr => ∃ (v : ByteArray) (k : Int), x0 = .string v ∧ Aside0 (v = s.extract 0 k.toNat ∧ m ≤ k ∧ k ≤ (s.size : Int) ∧ k < m + kq ∧ Drawn0 w wr))
  case atStart => exact ⟨s, (s.size : Int), rfl, ⟨by rw [Int.toNat_natCast]; exact HE.out.symm, by have := HM.out; omega, by omega, by have := HS.out; omega, Drawn0.refl _⟩⟩
  case round =>
    obtain ⟨v, k, rfl, HR⟩ := hrel
    have hk0 : 0 ≤ k := by have := HR.out; omega
    have hvs : (v.size : Int) = k := by have h := HR.out.1; have := HR.out.2.2.1; rw [h, ByteArray.size_extract]; omega
    have hvb : ∀ x : Int, 0 ≤ x → x < k → bt v x = bt s x := fun x h0 h1 => by rw [HR.out.1]; exact ext0_bt (by have := HR.out.2.2.1; omega) h0 (by omega)
    have p1 : (v.size : Int) ≤ 70000 := by have := HR.out.2.2.1; have := HS.out; omega
    by_cases hz : k = 0
    · have e1 : v = ByteArray.empty := by
        refine Bt.ext_bt (by have : v.size = 0 := by omega
                             simpa using this) fun j hj => by omega
      have HZ := Aside0.mk hz
      have HE1 := Aside0.mk e1
      have d1 : decide (0 < v.size) = false := decide_eq_false (by omega)
      have d1b : decide ((v.size : Int) > 0) = false := decide_eq_false (by omega)
      clear hz hvb hvs e1 hk0
      go_wp2
      go_ret
      refine ⟨?_, HR.out.2.2.2.2⟩
      have h1 := HR.out.1
      have h2 := HZ.out
      have h3 := HR.out.2.1
      rw [h2] at h1
      rw [show m = 0 by omega]
      show Ending.returned (Value.string v) = Ending.returned (Value.string (s.extract 0 0))
      rw [h1]
      rfl
    · have hlast := hvb (k - 1) (by omega) (by omega)
      have d1 : decide (0 < v.size) = true := decide_eq_true (by omega)
      have p2 : 1 ≤ (v.size : Int) := by omega
      have p3 : 1 ≤ v.size := by omega
      obtain ⟨B, hB⟩ : ∃ B, bt v (k - 1) = B := ⟨_, rfl⟩
      have hx : ∀ h : v.size - 1 < v.size, ((v[v.size - 1]'h).toNat : Int) = B := fun h => by
        rw [← hB, ← Bt.bt_in h]
        congr 1
        omega
      rw [hB] at hlast
      have HK := Aside0.mk hvs
      have HLA := Aside0.mk hlast
      by_cases hc : k = m
      · have hn := HST.out (by omega)
        rw [← hc, ← hlast] at hn
        have h4 := mt ws_iff.mpr (by rw [hn]; decide)
        have a1 : (B == 32) = false := beq_eq_false_iff_ne.mpr (fun h => h4 (.inl h))
        have a2 : (B == 9) = false := beq_eq_false_iff_ne.mpr (fun h => h4 (.inr (.inl h)))
        have a3 : (B == 10) = false := beq_eq_false_iff_ne.mpr (fun h => h4 (.inr (.inr (.inl h))))
        have a4 : (B == 13) = false := beq_eq_false_iff_ne.mpr (fun h => h4 (.inr (.inr (.inr h))))
        have HC := Aside0.mk hc
        clear hc hn h4 hlast hvb hvs hz hk0 hB
        go_wp2
        repeat (go_quiet (fail); try go_wp2)
        go_ret
        refine ⟨?_, by repeat (first | exact HR.out.2.2.2.2 | apply Drawn0.step)⟩
        have h1 := HR.out.1
        rw [show k.toNat = m by have := HC.out; omega] at h1
        show Ending.returned (Value.string v) = _
        rw [h1]
      · have hw := ws_iff.mp (HW.out (k - 1) (by have := HR.out.2.1; omega) (by have := HR.out.2.2.1; omega))
        rw [← hlast] at hw
        have hd : (B == 32) = true ∨ (B == 32) = false ∧ ((B == 9) = true ∨ (B == 9) = false ∧ ((B == 10) = true ∨ (B == 10) = false ∧ (B == 13) = true)) := by
          simp only [beq_iff_eq, beq_eq_false_iff_ne]
          omega
        have HC := Aside0.mk hc
        have HD := Aside0.mk hd
        have HNV := Aside0.mk (show v.extract 0 (v.size - 1) = s.extract 0 (k - 1).toNat by
          rw [HR.out.1, ext0_size (by have := HR.out.2.2.1; omega), ext0_ext (by omega)]
          congr 1
          omega)
        clear hc hw hlast hvb hvs hz hk0 hB hd
        rcases HD.out with a1 | ⟨a1, a2 | ⟨a2, a3 | ⟨a3, a4⟩⟩⟩
        all_goals
          clear HD
          go_wp2
          repeat (go_quiet (fail); try go_wp2)
          go_roundg (gk - 1)
          case measure => have := HR.out; have := HC.out; omega
          case rel => exact ⟨_, k - 1, rfl, ⟨HNV.out, by have := HR.out.2.1; have := HC.out; omega, by have := HR.out.2.2.1; omega, by have := HR.out.2.2.2.1; omega, by repeat (first | exact HR.out.2.2.2.2 | apply Drawn0.step)⟩⟩
end Go.Proofs.YtldfejbmdonaoaaDoor.Tm