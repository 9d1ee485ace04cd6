/- Joined by a program of mine from texts of this claim: Pu. -/
import Derived.Test.YtldfejbmdonaoaaDoorProg
import Derived.Test.YtldfejbmdonaoaaDoorX9
import Derived.WalkMore
import Derived.ScopeJumps
namespace Go.Proofs.YtldfejbmdonaoaaDoor.Pu
open Go.RowKit YtldfejbmdonaoaaDoorW.PrintWords YtldfejbmdonaoaaDoorW.PrintLast YtldfejbmdonaoaaDoorW.PrintMore
set_option linter.unusedVariables false
set_option linter.unusedSimpArgs false
def AllD (s : ByteArray) (k : Nat) : Prop := ∀ j : Nat, j < k → 48 ≤ bt s j ∧ bt s j ≤ 57
def val (s : ByteArray) : Nat → Int
  | 0 => 0
  | k + 1 => val s k * 10 + (bt s k - 48)
theorem AllD.zero (s : ByteArray) : AllD s 0 := fun j h => absurd h (Nat.not_lt_zero j)
theorem AllD.succ {s : ByteArray} {k : Nat} (h : AllD s k) (h1 : 48 ≤ bt s k) (h2 : bt s k ≤ 57) : AllD s (k + 1) := by
  intro j hj
  rcases Nat.lt_or_ge j k with h' | h'
  · exact h j h'
  · obtain rfl : j = k := by omega
    exact ⟨h1, h2⟩
theorem AllD.mono {s : ByteArray} {k m : Nat} (h : AllD s k) (hm : m ≤ k) : AllD s m := fun j hj => h j (by omega)
theorem val_bd {s : ByteArray} {k : Nat} (h : AllD s k) : 0 ≤ val s k ∧ val s k < 10 ^ k := by
  induction k with
  | zero => simp [val]
  | succ k ih =>
    have h1 := ih (h.mono (Nat.le_succ k))
    have h2 := h k (Nat.lt_succ_self k)
    simp only [val]
    rw [Int.pow_succ]
    omega
theorem pow_le_18 {k : Nat} (h : k ≤ 18) : (10 : Int) ^ k ≤ 1000000000000000000 := by
  have h1 : (10 : Nat) ^ k ≤ 10 ^ 18 := Nat.pow_le_pow_right (by omega) h
  have h2 : ((10 ^ k : Nat) : Int) ≤ ((10 ^ 18 : Nat) : Int) := Int.ofNat_le.mpr h1
  rw [Int.natCast_pow] at h2
  simpa using h2
structure Res (s : ByteArray) (n : Int) (b : Bool) : Prop where
  ok : b = true ↔ s.size ≠ 0 ∧ AllD s s.size
  num : b = true → s.size ≤ 18 → n = val s s.size
  lo : 0 ≤ n
  hi : n ≤ 18446744073709551615
theorem bad_of {s : ByteArray} {k : Nat} (hk : k < s.size) (h : bt s k < 48 ∨ 57 < bt s k) : Res s 0 false :=
  ⟨⟨fun e => absurd e Bool.false_ne_true, fun e => by have := e.2 k hk; omega⟩, fun e => absurd e Bool.false_ne_true, by omega, by omega⟩
structure At (s : ByteArray) (k : Nat) (n : Int) : Prop where
  le : k ≤ s.size
  all : AllD s k
  num : k ≤ 18 → n = val s k
  lo : 0 ≤ n
  hi : n ≤ 18446744073709551615
structure At2 (s : ByteArray) (k : Nat) : Prop where
  le : k ≤ s.size
  all : AllD s k
  big : 18 < s.size
theorem u64_nonneg (x : Int) : 0 ≤ IntKind.u64.wrap x ∧ IntKind.u64.wrap x ≤ 18446744073709551615 := by
  simp [IntKind.wrap, IntKind.signed, IntKind.bits]
  omega
theorem u64_id {x : Int} (h0 : 0 ≤ x) (h1 : x ≤ 18446744073709551615) : IntKind.u64.wrap x = x := by
  simp [IntKind.wrap, IntKind.signed, IntKind.bits]
  omega
theorem At.step {s : ByteArray} {k : Nat} {n : Int} (h : At s k n) (hk : k < s.size) (h1 : 48 ≤ bt s k) (h2 : bt s k ≤ 57) :
    At s (k + 1) (IntKind.u64.wrap (IntKind.u64.wrap (n * 10) + (bt s k - 48))) := by
  refine ⟨hk, h.all.succ h1 h2, fun h18 => ?_, (u64_nonneg _).1, (u64_nonneg _).2⟩
  have hn := h.num (by omega)
  have hb := val_bd h.all
  have hp := pow_le_18 (k := k) (by omega)
  rw [hn, u64_id (x := val s k * 10) (by omega) (by omega), u64_id (by omega) (by omega)]
  rfl
theorem At.over {s : ByteArray} {k : Nat} {n : Int} (h : At s k n) (hk : k < s.size) (h1 : 48 ≤ bt s k) (h2 : bt s k ≤ 57)
    (ho : IntKind.u64.wrap (IntKind.u64.wrap (n * 10) + (bt s k - 48)) < n) : At2 s k := by
  refine ⟨by omega, h.all, ?_⟩
  rcases Nat.lt_or_ge 18 s.size with h' | h'
  · exact h'
  · exfalso
    have hn := h.num (by omega)
    have hb := val_bd h.all
    have hp := pow_le_18 (k := k) (by omega)
    rw [hn, u64_id (x := val s k * 10) (by omega) (by omega), u64_id (by omega) (by omega)] at ho
    omega
theorem At.end_ {s : ByteArray} {n : Int} (h : At s s.size n) (h0 : s.size ≠ 0) : Res s n true :=
  ⟨⟨fun _ => ⟨h0, h.all⟩, fun _ => rfl⟩, fun _ h18 => h.num h18, h.lo, h.hi⟩
theorem At2.end_ {s : ByteArray} (h : At2 s s.size) : Res s 18446744073709551615 true :=
  ⟨⟨fun _ => ⟨by have := h.big; omega, h.all⟩, fun _ => rfl⟩, fun _ h18 => absurd h.big (by omega), by omega, by omega⟩
def Post (s : ByteArray) (w : World) (e : Ending) (w' : World) : Prop := ∃ n b, e = .returned (.tuple #[.int .u64 n, .bool b]) ∧ Res s n b ∧ Drawn0 w w'
def Jump (s : ByteArray) (w : World) (a' : Act) (w' : World) : Prop :=
  Drawn0 w w' ∧ ∃ (i : Int) (k : Nat) (v1 v2 v3 v5 v6 v7 v8 v9 v10 v11 v12 v13 v14 v15 v16 v17 v18 v19 v20 v21 v22 v23 v24 v25 v26 v27 v28 v29 v30 v31 v32 v33 v34 v35 v36 v37 v38 v39 v40 v41 v42 v43 v44 v45 v46 v47 v48 v49 v50 v51 v52 v53 v54 v55 : Value), Aside0 (i = k) ∧ Aside0 (At2 s k) ∧ a' = { tmps := #[.string s, v1, v2, v3, .int .i64 i, v5, v6, v7, v8, v9, v10, v11, v12, v13, v14, v15, v16, v17, v18, v19, v20, v21, v22, v23, v24, v25, v26, v27, v28, v29, v30, v31, v32, v33, v34, v35, v36, v37, v38, v39, v40, v41, v42, v43, v44, v45, v46, v47, v48, v49, v50, v51, v52, v53, v54, v55], defers := [] }
set_option maxRecDepth 100000 in
set_option maxHeartbeats 2000000 in
theorem parseUint_any (s : ByteArray) (w : World) (hs : s.size ≤ 140737488351232) : Calls Tryd.prog 35 #[.string s] w (Post s w) := by
  by_cases h0 : s.size = 0
  · have h0' : (0 == (s.size : Int)) = true := by simp; omega
    have R : Res s 0 false := ⟨⟨fun e => absurd e Bool.false_ne_true, fun e => absurd h0 e.1⟩, fun e => absurd e Bool.false_ne_true, by omega, by omega⟩
    have HR := Aside0.mk R
    clear R h0
    go_enter Tryd.func35, Tryd.ntmps35
    go_wp2
    refine wp_scope_jumps 0 (fun a' w' => False) (fun _ _ => 0) rfl ?_ (fun _ _ h => h.elim)
    go_wp2
    simp only [Exit.jump]
    go_ret2
    exact ⟨_, _, rfl, HR.out, Drawn0.refl _⟩
  have HN := Aside0.mk h0
  have h0' : (0 == (s.size : Int)) = false := by simp; omega
  have HS := Aside0.mk hs
  have HA0 : Aside0 (At s 0 0) := ⟨⟨Nat.zero_le _, AllD.zero s, fun _ => rfl, by omega, by omega⟩⟩
  clear h0 hs
  go_enter Tryd.func35, Tryd.ntmps35
  go_wp2
  refine wp_scope_jumps 0 (Jump s w) (fun _ _ => 0) rfl ?_ ?_
  · go_wp2
    go_loopg [4, 5] s.size (fun kq x4 x5 w' => ∃ (i : Int) (k : Nat) (n : Int), x4 = .int .i64 i ∧ x5 = .int .u64 n ∧ Aside0 (i = k) ∧ Aside0 (k + kq = s.size) ∧ Aside0 (At s k n) ∧ Drawn0 w w')
    case atStart => exact ⟨0, 0, 0, rfl, rfl, ⟨rfl⟩, ⟨by omega⟩, HA0, Drawn0.refl _⟩
    case round =>
      clear HA0
      obtain ⟨i, k, n, rfl, rfl, HI, HK, HA, ⟨m1, rfl⟩⟩ := hrel
      have p1 : (0 : Int) ≤ i := by have := HI.out; omega
      by_cases hlt : i < (s.size : Int)
      · have c1 : decide (i < (s.size : Int)) = true := decide_eq_true hlt
        have hx2 := bt_at s i
        have hu := HS.out
        have HL : Aside0 (k < s.size) := ⟨by have := HI.out; omega⟩
        have HE : Aside0 (bt s i = bt s k) := ⟨by rw [HI.out]⟩
        by_cases c3 : bt s i < 48
        · have d3 : decide (bt s i < 48) = true := decide_eq_true c3
          have HB := Aside0.mk (bad_of HL.out (.inl (by rw [← HE.out]; exact c3)))
          clear c3
          go_wp2
          simp only [Exit.jump]
          go_ret2
          exact ⟨_, _, rfl, HB.out, Drawn0.step (Drawn0.refl _) _⟩
        · have d3 : decide (bt s i < 48) = false := decide_eq_false c3
          by_cases c4 : 57 < bt s i
          · have d4 : decide (57 < bt s i) = true := decide_eq_true c4
            have HB := Aside0.mk (bad_of HL.out (.inr (by rw [← HE.out]; exact c4)))
            clear c3 c4
            go_wp2
            simp only [Exit.jump]
            go_ret2
            exact ⟨_, _, rfl, HB.out, Drawn0.step (Drawn0.refl _) _⟩
          · have d4 : decide (57 < bt s i) = false := decide_eq_false c4
            have HC := Aside0.mk (And.intro (Int.not_lt.mp c3) (Int.not_lt.mp c4))
            have hr := bt_range s i
            go_wp2
            · rename_i ho
              go_step3
              refine ⟨rfl, Drawn0.step (Drawn0.refl _) _, i, k, _, _, _, _, _, _, _, _, _, _, _, _, _, _, _, _, _, _, _, _, _, _, _, _, _, _, _, _, _, _, _, _, _, _, _, _, _, _, _, _, _, _, _, _, _, _, _, _, _, _, _, _, _, _, HI, ⟨HA.out.over HL.out ?_ ?_ ?_⟩, rfl⟩
              · rw [← HE.out]; exact HC.out.1
              · rw [← HE.out]; exact HC.out.2
              · rw [← HE.out]; exact ho
            · go_roundg (s.size - (k + 1))
              case measure => have := HK.out; have := HL.out; omega
              case rel =>
                have E := HA.out.step HL.out (by rw [← HE.out]; exact HC.out.1) (by rw [← HE.out]; exact HC.out.2)
                rw [← HE.out] at E
                exact ⟨_, k + 1, _, rfl, rfl, ⟨by have := HI.out; omega⟩, ⟨by have := HL.out; omega⟩, ⟨E⟩, Drawn0.step (Drawn0.refl _) _⟩
      · obtain rfl : k = s.size := by have := HA.out.le; have := HI.out; omega
        have c1 : decide (i < (s.size : Int)) = false := decide_eq_false hlt
        clear hlt
        go_wp2
        simp only [Exit.jump]
        go_ret2
        exact ⟨_, _, rfl, HA.out.end_ HN.out, Drawn0.step (Drawn0.refl _) _⟩
  · clear HA0
    rintro a' w' ⟨⟨m0, rfl⟩, i0, k0, v1, v2, v3, v5, v6, v7, v8, v9, v10, v11, v12, v13, v14, v15, v16, v17, v18, v19, v20, v21, v22, v23, v24, v25, v26, v27, v28, v29, v30, v31, v32, v33, v34, v35, v36, v37, v38, v39, v40, v41, v42, v43, v44, v45, v46, v47, v48, v49, v50, v51, v52, v53, v54, v55, HI0, HA, rfl⟩
    go_wp2
    go_loopg [4] (s.size - k0) (fun kq x4 w' => ∃ (i : Int) (k : Nat), x4 = .int .i64 i ∧ Aside0 (i = k) ∧ Aside0 (k + kq = s.size) ∧ Aside0 (At2 s k) ∧ Drawn0 w w')
    case atStart => exact ⟨i0, k0, rfl, HI0, ⟨by have := HA.out.le; omega⟩, HA, Drawn0.step (Drawn0.refl _) _⟩
    case round =>
      clear HA HI0
      obtain ⟨i, k, rfl, HI, HK, HA, ⟨m1, rfl⟩⟩ := hrel
      have p1 : (0 : Int) ≤ i := by have := HI.out; omega
      by_cases hlt : i < (s.size : Int)
      · have c1 : decide (i < (s.size : Int)) = true := decide_eq_true hlt
        have hx2 := bt_at s i
        have hu := HS.out
        have HL : Aside0 (k < s.size) := ⟨by have := HI.out; omega⟩
        have HE : Aside0 (bt s i = bt s k) := ⟨by rw [HI.out]⟩
        by_cases c3 : bt s i < 48
        · have d3 : decide (bt s i < 48) = true := decide_eq_true c3
          have HB := Aside0.mk (bad_of HL.out (.inl (by rw [← HE.out]; exact c3)))
          clear c3
          go_wp2
          simp only [Exit.jump]
          go_ret2
          exact ⟨_, _, rfl, HB.out, Drawn0.step (Drawn0.refl _) _⟩
        · have d3 : decide (bt s i < 48) = false := decide_eq_false c3
          by_cases c4 : 57 < bt s i
          · have d4 : decide (57 < bt s i) = true := decide_eq_true c4
            have HB := Aside0.mk (bad_of HL.out (.inr (by rw [← HE.out]; exact c4)))
            clear c3 c4
            go_wp2
            simp only [Exit.jump]
            go_ret2
            exact ⟨_, _, rfl, HB.out, Drawn0.step (Drawn0.refl _) _⟩
          · have d4 : decide (57 < bt s i) = false := decide_eq_false c4
            have HC := Aside0.mk (And.intro (Int.not_lt.mp c3) (Int.not_lt.mp c4))
            go_wp2
            go_roundg (s.size - (k + 1))
            case measure => have := HK.out; have := HL.out; omega
            case rel =>
              exact ⟨_, k + 1, rfl, ⟨by have := HI.out; omega⟩, ⟨by have := HL.out; omega⟩,
                ⟨HL.out, HA.out.all.succ (by rw [← HE.out]; exact HC.out.1) (by rw [← HE.out]; exact HC.out.2), HA.out.big⟩, Drawn0.step (Drawn0.refl _) _⟩
      · obtain rfl : k = s.size := by have := HA.out.le; have := HI.out; omega
        have c1 : decide (i < (s.size : Int)) = false := decide_eq_false hlt
        clear hlt
        go_wp2
        simp only [Exit.jump]
        go_ret2
        exact ⟨_, _, rfl, HA.out.end_, Drawn0.step (Drawn0.refl _) _⟩
end Go.Proofs.YtldfejbmdonaoaaDoor.Pu