/- Joined by a program of mine from texts of this claim: Nx. -/
import Derived.Test.YtldfejbmdonaoaaGreatDoorZB16
import Derived.Test.YtldfejbmdonaoaaGreatDoorZB27
namespace Go.Proofs.YtldfejbmdonaoaaGreatDoor.Nx
open Go.RowKit YtldfejbmdonaoaaGreatDoorW.PrintWords YtldfejbmdonaoaaGreatDoorW.PrintLast YtldfejbmdonaoaaGreatDoorW.PrintMore Tp At Pz
set_option linter.unusedVariables false
set_option linter.unusedSimpArgs false
def numc (c : Int) : Prop := 48 ≤ c ∧ c ≤ 57 ∨ c = 45 ∨ c = 43 ∨ c = 46 ∨ c = 101 ∨ c = 69
theorem run_all {p : Int → Bool} {s : ByteArray} : ∀ (n : Nat) (i x : Int), i ≤ x → x < run p s n i → p (bt s x) = true
  | 0, i, x, h0, h1 => by simp [run] at h1; omega
  | n + 1, i, x, h0, h1 => by
    unfold run at h1
    by_cases hp : p (bt s i) = true
    · rw [if_pos hp] at h1
      by_cases e : x = i
      · subst e; exact hp
      · exact run_all n (i + 1) x (by omega) h1
    · rw [if_neg hp] at h1; omega
theorem runEnd_all {p : Int → Bool} {s : ByteArray} {i x : Int} (h0 : i ≤ x) (h1 : x < runEnd p s i) : p (bt s x) = true := run_all _ i x h0 h1
theorem dg_iff {c : Int} : dg c = true ↔ 48 ≤ c ∧ c ≤ 57 := by simp [dg]
theorem dgc {c : Int} (h : dg c = true) : numc c := .inl (dg_iff.mp h)
section
variable {s : ByteArray}
theorem sign_c {i x : Int} (h0 : i ≤ x) (h1 : x < nSign s i) : numc (bt s x) := by
  unfold nSign at h1
  by_cases h : bt s i = 45
  · rw [if_pos h] at h1
    obtain rfl : x = i := by omega
    exact .inr (.inl h)
  · rw [if_neg h] at h1; omega
theorem int_c {i x : Int} (h0 : i ≤ x) (h1 : x < nInt s i) : numc (bt s x) := by
  unfold nInt at h1
  by_cases h : bt s i = 48
  · rw [if_pos h] at h1
    obtain rfl : x = i := by omega
    exact .inl (by omega)
  · rw [if_neg h] at h1; exact dgc (runEnd_all h0 h1)
theorem frac_c {i x : Int} (h0 : i ≤ x) (h1 : x < nFrac s i) : numc (bt s x) := by
  unfold nFrac at h1
  by_cases h : bt s i = 46
  · rw [if_pos h] at h1
    by_cases e : x = i
    · subst e; exact .inr (.inr (.inr (.inl h)))
    · exact dgc (runEnd_all (by omega) h1)
  · rw [if_neg h] at h1; omega
theorem at_c {i x : Int} (h0 : i ≤ x) (h1 : x < nAt s i) : numc (bt s x) := by
  unfold nAt at h1
  by_cases h : bt s i = 43
  · rw [if_pos h] at h1
    obtain rfl : x = i := by omega
    exact .inr (.inr (.inl h))
  · rw [if_neg h] at h1
    by_cases h2 : bt s i = 45
    · rw [if_pos h2] at h1
      obtain rfl : x = i := by omega
      exact .inr (.inl h2)
    · rw [if_neg h2] at h1; omega
theorem exp_c {i x : Int} (h0 : i ≤ x) (h1 : x < nExp s i) : numc (bt s x) := by
  unfold nExp at h1
  by_cases h : isE (bt s i) = true
  · rw [if_pos h] at h1
    by_cases e : x = i
    · subst e
      simp [isE] at h
      rcases h with h | h
      · exact .inr (.inr (.inr (.inr (.inl h))))
      · exact .inr (.inr (.inr (.inr (.inr h))))
    · by_cases h2 : x < nAt s (i + 1)
      · exact at_c (by omega) h2
      · exact dgc (runEnd_all (by omega) h1)
  · rw [if_neg h] at h1; omega
theorem num_bytes {i x : Int} (h0 : i ≤ x) (h1 : x < numEnd s i) : numc (bt s x) := by
  unfold numEnd at h1
  by_cases a1 : x < nSign s i
  · exact sign_c h0 a1
  by_cases a2 : x < nInt s (nSign s i)
  · exact int_c (by omega) a2
  by_cases a3 : x < nFrac s (nInt s (nSign s i))
  · exact frac_c (by omega) a3
  · exact exp_c (by omega) h1
theorem int_gt {i : Int} (h : dg (bt s i) = true) : i + 1 ≤ nInt s i := by
  unfold nInt
  by_cases h2 : bt s i = 48
  · rw [if_pos h2]; omega
  · rw [if_neg h2, runEnd_step (lt_of_bt (by have := dg_iff.mp h; omega)) h]
    exact runEnd_ge
theorem frac_ge (i : Int) : i ≤ nFrac s i := by
  unfold nFrac
  split
  · have := runEnd_ge (p := dg) (s := s) (i := i + 1); omega
  · omega
theorem at_ge (i : Int) : i ≤ nAt s i := by unfold nAt; split <;> (try split) <;> omega
theorem exp_ge (i : Int) : i ≤ nExp s i := by
  unfold nExp
  split
  · have h1 := at_ge (s := s) (i + 1)
    have := runEnd_ge (p := dg) (s := s) (i := nAt s (i + 1)); omega
  · omega
theorem num_gt {i : Int} (hb : numBad s i = false) : nSign s i + 1 ≤ numEnd s i ∧ dg (bt s (nSign s i)) = true := by
  have hd : dg (bt s (nSign s i)) = true := by
    unfold numBad at hb
    simp only [Bool.or_eq_false_iff, Bool.not_eq_false'] at hb
    exact hb.1.1
  have h1 := int_gt hd
  have h2 := frac_ge (s := s) (nInt s (nSign s i))
  have h3 := exp_ge (s := s) (nFrac s (nInt s (nSign s i)))
  exact ⟨by unfold numEnd; omega, hd⟩
theorem or32 {c : Int} (h : numc c ∨ c = 0) : (bits BinOp.or IntKind.u8 c 32 == 120) = false := by
  have : c = 48 ∨ c = 49 ∨ c = 50 ∨ c = 51 ∨ c = 52 ∨ c = 53 ∨ c = 54 ∨ c = 55 ∨ c = 56 ∨ c = 57 ∨ c = 45 ∨ c = 43 ∨ c = 46 ∨ c = 101 ∨ c = 69 ∨ c = 0 := by unfold numc at h; omega
  rcases this with rfl | rfl | rfl | rfl | rfl | rfl | rfl | rfl | rfl | rfl | rfl | rfl | rfl | rfl | rfl | rfl <;> decide
theorem bt_neg {u : ByteArray} {x : Int} : bt u x = bt u (x.toNat : Int) := by unfold bt; simp only [Int.toNat_natCast]
theorem num_text {i : Int} (h0 : 0 ≤ i) (hs : (s.size : Int) ≤ 70000) (hb : numBad s i = false) (h1 : i ≤ (s.size : Int)) : NumS (s.extract i.toNat (numEnd s i).toNat) ∧ i + 1 ≤ numEnd s i ∧ numEnd s i ≤ (s.size : Int) := by
  obtain ⟨hg, hd⟩ := num_gt hb
  have hle := (numEnd_le h1).2
  have hsg := nSign_le h1
  have hsz : ((s.extract i.toNat (numEnd s i).toNat).size : Int) = numEnd s i - i := by rw [ByteArray.size_extract]; omega
  have hbt : ∀ x : Int, 0 ≤ x → x < numEnd s i - i → bt (s.extract i.toNat (numEnd s i).toNat) x = bt s (i + x) := by
    intro x hx0 hx1
    have := Bt.bt_extract (s := s) (a := i.toNat) (b := (numEnd s i).toNat) (by omega) (j := x.toNat) (by omega)
    rw [show ((x.toNat : Nat) : Int) = x by omega, show ((i.toNat + x.toNat : Nat) : Int) = i + x by omega] at this
    exact this
  have hall : ∀ x, numc (bt (s.extract i.toNat (numEnd s i).toNat) x) ∨ bt (s.extract i.toNat (numEnd s i).toNat) x = 0 := by
    intro x
    rw [bt_neg]
    by_cases hx : (x.toNat : Int) < numEnd s i - i
    · left
      rw [hbt _ (by omega) hx]
      exact num_bytes (i := i) (by omega) (by omega)
    · right
      exact bt_out (by omega)
  refine ⟨⟨by omega, ⟨nSign s i - i, ?_, by omega, ?_, ?_⟩, fun x => ?_, fun x => or32 (hall x)⟩, by omega, hle⟩
  · unfold nSign
    by_cases h : bt s i = 45
    · rw [if_pos h]
      right
      refine ⟨by omega, ?_⟩
      rw [hbt 0 (by omega) (by omega), Int.add_zero]; exact h
    · rw [if_neg h]; left; omega
  · rw [hbt _ (by omega) (by omega), show i + (nSign s i - i) = nSign s i by omega]; exact (dg_iff.mp hd).1
  · rw [hbt _ (by omega) (by omega), show i + (nSign s i - i) = nSign s i by omega]; exact (dg_iff.mp hd).2
  · rcases hall x with h | h
    · unfold numc at h; omega
    · omega
end
def stopc (c : Int) : Prop := c ≤ 32 ∨ c = 44 ∨ c = 93 ∨ c = 125
theorem numc_go {c : Int} (h : numc c) : ¬ stopc c := by unfold numc at h; unfold stopc; omega
def TonPost (v : ByteArray) (n : Int) (w : World) (e : Ending) (w' : World) : Prop := ∃ x : Nat, e = .returned (.tuple #[.string (v.extract 0 n.toNat), .float .f64 x]) ∧ ExactX (v.extract 0 n.toNat) x ∧ Below w.heap.size w w'
set_option maxRecDepth 100000 in
set_option maxHeartbeats 4000000 in
theorem tonum_walk (v : ByteArray) (n : Int) (w : World) (hn1 : 1 ≤ n) (hn2 : n ≤ (v.size : Int)) (hs : (v.size : Int) ≤ 70000) (hgo : ∀ x, 1 ≤ x → x < n → ¬ stopc (bt v x)) (hst : n < (v.size : Int) → stopc (bt v n))
    (hN : NumS (v.extract 0 n.toNat)) (hT : Tabs w w.heap.size) (hV : ErrVars w w.heap.size) :
    Calls Tryz.prog 40 #[.string v] w (TonPost v n w) := by
  have HF := Aside0.mk (fun (W : World) (hW : Below w.heap.size w W) => float_walk (v.extract 0 n.toNat) W hN ((hT.below hW).mono hW.size) ((hV.below hW).mono hW.size))
  have HN := Aside0.mk (And.intro hn1 (And.intro hn2 hs))
  have HG := Aside0.mk hgo
  have HST := Aside0.mk hst
  clear hN hT hV hn1 hn2 hs hgo hst
  go_enter Tryz.func40, Tryz.ntmps40
  go_wp2
  go_loopg [4] 70001 (fun kq x4 wr => ∃ i : Int, x4 = .int .i64 i ∧ Aside0 (1 ≤ i ∧ i ≤ n ∧ n < i + kq) ∧ wr = w)
  case atStart => exact ⟨1, rfl, ⟨by omega, HN.out.1, by have := HN.out; omega⟩, rfl⟩
  case round =>
    obtain ⟨i, rfl, HR, rfl⟩ := hrel
    have p1 : 0 ≤ i := by have := HR.out; omega
    have p2 : i ≤ 70000 := by have := HR.out; have := HN.out; omega
    by_cases hi : i < n
    · have d1 : decide (i < (v.size : Int)) = true := decide_eq_true (by have := HN.out; omega)
      have q1 : (i < (v.size : Int)) = True := eq_true (by have := HN.out; omega)
      have hx := bt_at v i
      have hng := HG.out i HR.out.1 hi
      unfold stopc at hng
      have HI := Aside0.mk hi
      have d3 : decide (bt v i ≤ 32) = false := decide_eq_false (by omega)
      have d4 : (bt v i == 44) = false := beq_eq_false_iff_ne.mpr (by omega)
      have d5 : (bt v i == 93) = false := beq_eq_false_iff_ne.mpr (by omega)
      have d6 : (bt v i == 125) = false := beq_eq_false_iff_ne.mpr (by omega)
      clear hng hi
      by_cases h45 : bt v i ≤ 45
      · have d2 : decide (bt v i ≤ 45) = true := decide_eq_true h45
        clear h45
        go_wp2
        go_roundg (gk - 1)
        case measure => have := HR.out; have := HI.out; omega
        case rel => exact ⟨i + 1, rfl, ⟨by omega, by have := HI.out; omega, by have := HR.out; omega⟩, rfl⟩
      · have d2 : decide (bt v i ≤ 45) = false := decide_eq_false h45
        clear h45
        go_wp2
        go_roundg (gk - 1)
        case measure => have := HR.out; have := HI.out; omega
        case rel => exact ⟨i + 1, rfl, ⟨by omega, by have := HI.out; omega, by have := HR.out; omega⟩, rfl⟩
    · obtain rfl : i = n := by have := HR.out; omega
      clear hi
      by_cases hz : i < (v.size : Int)
      · have d1 : decide (i < (v.size : Int)) = true := decide_eq_true hz
        have q1 : (i < (v.size : Int)) = True := eq_true hz
        have q2 : (i ≤ (v.size : Int)) = True := eq_true (by omega)
        have hx := bt_at v i
        have hs := HST.out hz
        unfold stopc at hs
        clear hz
        have hcase : (decide (bt v i ≤ 45) = true ∧ (decide (bt v i ≤ 32) = true ∨ decide (bt v i ≤ 32) = false ∧ (bt v i == 44) = true)) ∨ decide (bt v i ≤ 45) = false ∧ ((bt v i == 93) = true ∨ (bt v i == 93) = false ∧ (bt v i == 125) = true) := by
          simp only [decide_eq_true_eq, decide_eq_false_iff_not, beq_iff_eq, beq_eq_false_iff_ne]
          omega
        clear hs
        rcases hcase with ⟨d2, d3 | ⟨d3, d4⟩⟩ | ⟨d2, d3 | ⟨d3, d4⟩⟩
        all_goals
          go_wp2_with fail
          refine (HF.out _ (Below.refl _ _)).mono ?_
          rintro e w2 ⟨x, er, rfl, hex, hb⟩
          have HEX := Aside0.mk hex
          have HB := Aside0.mk hb
          clear hb hex
          go_wp2
          go_ret2
          exact ⟨x, rfl, HEX.out, HB.out⟩
      · have d1 : decide (i < (v.size : Int)) = false := decide_eq_false hz
        have hw : v = v.extract 0 i.toNat := by rw [show i.toNat = v.size by have := HN.out; omega]; exact (Bt.extract_whole v).symm
        have HW := Aside0.mk hw
        have HF2 := Aside0.mk (fun W hW => by have h := HF.out W hW; rw [← hw] at h; exact h)
        clear hz hw
        go_wp2_with fail
        refine (HF2.out _ (Below.refl _ _)).mono ?_
        rintro e w2 ⟨x, er, rfl, hex, hb⟩
        have HEX := Aside0.mk hex
        have HB := Aside0.mk hb
        clear hb hex
        go_wp2
        go_ret2
        refine ⟨x, ?_, by rw [← HW.out]; exact HEX.out, HB.out⟩
        rw [← HW.out]
        rfl
def LitPost (v : ByteArray) (n : Int) (w : World) (e : Ending) (w' : World) : Prop := e = .returned (.string (v.extract 0 n.toNat)) ∧ w = w'
set_option maxRecDepth 100000 in
set_option maxHeartbeats 4000000 in
theorem tolit_walk (v : ByteArray) (n : Int) (w : World) (hn1 : 1 ≤ n) (hn2 : n ≤ (v.size : Int)) (hs : (v.size : Int) ≤ 70000) (hgo : ∀ x, 1 ≤ x → x < n → 97 ≤ bt v x ∧ bt v x ≤ 122) (hst : n < (v.size : Int) → ¬ (97 ≤ bt v n ∧ bt v n ≤ 122)) :
    Calls Tryz.prog 41 #[.string v] w (LitPost v n w) := by
  have HN := Aside0.mk (And.intro hn1 (And.intro hn2 hs))
  have HG := Aside0.mk hgo
  have HST := Aside0.mk hst
  clear hn1 hn2 hs hgo hst
  go_enter Tryz.func41, Tryz.ntmps41
  go_wp2
  go_loopg [3] 70001 (fun kq x3 wr => ∃ i : Int, x3 = .int .i64 i ∧ Aside0 (1 ≤ i ∧ i ≤ n ∧ n < i + kq) ∧ wr = w)
  case atStart => exact ⟨1, rfl, ⟨by omega, HN.out.1, by have := HN.out; omega⟩, rfl⟩
  case round =>
    obtain ⟨i, rfl, HR, rfl⟩ := hrel
    have p1 : 0 ≤ i := by have := HR.out; omega
    have p2 : i ≤ 70000 := by have := HR.out; have := HN.out; omega
    by_cases hi : i < n
    · have d1 : decide (i < (v.size : Int)) = true := decide_eq_true (by have := HN.out; omega)
      have q1 : (i < (v.size : Int)) = True := eq_true (by have := HN.out; omega)
      have hx := bt_at v i
      have hng := HG.out i HR.out.1 hi
      have HI := Aside0.mk hi
      have d3 : decide (bt v i < 97) = false := decide_eq_false (by omega)
      have d4 : decide (bt v i > 122) = false := decide_eq_false (by omega)
      clear hng hi
      go_wp2
      go_roundg (gk - 1)
      case measure => have := HR.out; have := HI.out; omega
      case rel => exact ⟨i + 1, rfl, ⟨by omega, by have := HI.out; omega, by have := HR.out; omega⟩, rfl⟩
    · obtain rfl : i = n := by have := HR.out; omega
      clear hi
      by_cases hz : i < (v.size : Int)
      · have d1 : decide (i < (v.size : Int)) = true := decide_eq_true hz
        have q1 : (i < (v.size : Int)) = True := eq_true hz
        have q2 : (i ≤ (v.size : Int)) = True := eq_true (by omega)
        have hx := bt_at v i
        have hs := HST.out hz
        clear hz
        have hcase : decide (bt v i < 97) = true ∨ decide (bt v i < 97) = false ∧ decide (bt v i > 122) = true := by
          simp only [decide_eq_true_eq, decide_eq_false_iff_not]
          omega
        clear hs
        rcases hcase with d3 | ⟨d3, d4⟩
        all_goals
          go_wp2
          go_ret
          exact ⟨rfl, rfl⟩
      · have d1 : decide (i < (v.size : Int)) = false := decide_eq_false hz
        have hw : v = v.extract 0 i.toNat := by rw [show i.toNat = v.size by have := HN.out; omega]; exact (Bt.extract_whole v).symm
        have HW := Aside0.mk hw
        clear hz hw
        go_wp2
        go_ret
        refine ⟨?_, rfl⟩
        rw [← HW.out]
        rfl
end Go.Proofs.YtldfejbmdonaoaaGreatDoor.Nx