/- laws.FnExactParseUint returns true on every string (shorter than 2^47 bytes). -/
import Derived.Test.YteehmhakcdaljaaPu
namespace Go.Proofs.Yteehmhakcdaljaa.Pu
open Go.RowKit Go.Proofs.YteehmhakcdaljaaW.PrintWords Go.Proofs.YteehmhakcdaljaaW.PrintLast Go.Proofs.YteehmhakcdaljaaW.PrintMore
set_option linter.unusedVariables false
set_option linter.unusedSimpArgs false

theorem impl_any (s : ByteArray) (w : World) (hs : s.size ≤ 140737488351232) : Calls Try.prog 8 #[.string s] w (Post s w) := by
  have HS := Aside0.mk hs
  clear hs
  go_enter Try.func8, Try.ntmps8
  go_wp2_with (first | (go_at_call 24; refine (parseUint_any _ _ HS.out).mono ?_; rintro e w' ⟨n, b, rfl, hr, hd⟩; have HR := Aside0.mk hr; clear hr) | go_in)
  go_ret2
  exact ⟨_, _, rfl, HR.out, hd⟩

structure LawAt (s : ByteArray) (k : Nat) (wv : Int) (ob : Bool) : Prop where
  le : k ≤ s.size
  oth : ob = true ↔ s.size = 0 ∨ ¬ AllD s k
  num : AllD s k → wv = val s (min k 18)
  lo : 0 ≤ wv
  hi : wv < 10 ^ (min k 18)

theorem allD_dec {s : ByteArray} {k : Nat} : AllD s (k + 1) ↔ AllD s k ∧ 48 ≤ bt s k ∧ bt s k ≤ 57 :=
  ⟨fun h => ⟨h.mono (Nat.le_succ k), h k (Nat.lt_succ_self k)⟩, fun h => h.1.succ h.2.1 h.2.2⟩
theorem isEmpty_iff (s : ByteArray) : s.toList.isEmpty = true ↔ s.size = 0 := by
  rw [List.isEmpty_iff_length_eq_zero, ByteArray.toList_eq, data_length]
theorem LawAt.start (s : ByteArray) : LawAt s 0 0 s.toList.isEmpty :=
  ⟨Nat.zero_le _, ⟨fun h => .inl ((isEmpty_iff s).mp h), fun h => by
    rcases h with h | h
    · exact (isEmpty_iff s).mpr h
    · exact absurd (AllD.zero s) h⟩, fun _ => rfl, by omega, by decide⟩
theorem pow_step (k : Nat) : (10 : Int) ^ (min k 18) ≤ 10 ^ (min (k + 1) 18) := by
  rcases Nat.lt_or_ge k 18 with h | h
  · rw [Nat.min_eq_left (by omega), Nat.min_eq_left (by omega), Int.pow_succ]
    have : (0 : Int) < 10 ^ k := Int.pow_pos (by omega)
    omega
  · rw [Nat.min_eq_right h, Nat.min_eq_right (by omega)]
    exact Int.le_refl _
theorem pow_min (k : Nat) : (10 : Int) ^ (min k 18) ≤ 1000000000000000000 := pow_le_18 (Nat.min_le_right k 18)
theorem LawAt.bad {s : ByteArray} {k : Nat} {wv : Int} {ob : Bool} (h : LawAt s k wv ob) (hk : k < s.size) (hb : bt s k < 48 ∨ 57 < bt s k) : LawAt s (k + 1) wv true := by
  have hn : ¬ AllD s (k + 1) := fun hh => by have := hh k (by omega); omega
  exact ⟨hk, ⟨fun _ => .inr hn, fun _ => rfl⟩, fun hh => absurd hh hn, h.lo, Int.lt_of_lt_of_le h.hi (pow_step k)⟩
theorem LawAt.good {s : ByteArray} {k : Nat} {wv : Int} {ob : Bool} (h : LawAt s k wv ob) (hk : k < s.size) (h1 : 48 ≤ bt s k) (h2 : bt s k ≤ 57) (h18 : k < 18) : LawAt s (k + 1) (wv * 10 + (bt s k - 48)) ob := by
  have e1 : min k 18 = k := Nat.min_eq_left (by omega)
  have e2 : min (k + 1) 18 = k + 1 := Nat.min_eq_left (by omega)
  refine ⟨hk, ?_, fun hh => ?_, ?_, ?_⟩
  · rw [h.oth, allD_dec]
    exact ⟨fun x => x.elim .inl fun y => .inr fun z => y z.1, fun x => x.elim .inl fun y => .inr fun z => y ⟨z, h1, h2⟩⟩
  · rw [h.num (hh.mono (Nat.le_succ k)), e1, e2]
    rfl
  · have := h.lo
    omega
  · have := h.hi
    rw [e1] at this
    rw [e2, Int.pow_succ]
    omega
theorem LawAt.more {s : ByteArray} {k : Nat} {wv : Int} {ob : Bool} (h : LawAt s k wv ob) (hk : k < s.size) (h1 : 48 ≤ bt s k) (h2 : bt s k ≤ 57) (h18 : ¬ k < 18) : LawAt s (k + 1) wv ob := by
  have e1 : min k 18 = 18 := Nat.min_eq_right (by omega)
  have e2 : min (k + 1) 18 = 18 := Nat.min_eq_right (by omega)
  refine ⟨hk, ?_, fun hh => ?_, h.lo, ?_⟩
  · rw [h.oth, allD_dec]
    exact ⟨fun x => x.elim .inl fun y => .inr fun z => y z.1, fun x => x.elim .inl fun y => .inr fun z => y ⟨z, h1, h2⟩⟩
  · rw [h.num (hh.mono (Nat.le_succ k)), e1, e2]
  · have := h.hi
    rw [e1] at this
    rw [e2]
    exact this
theorem LawAt.bounds {s : ByteArray} {k : Nat} {wv : Int} {ob : Bool} (h : LawAt s k wv ob) : 0 ≤ wv ∧ wv < 1000000000000000000 := ⟨h.lo, Int.lt_of_lt_of_le h.hi (pow_min k)⟩
theorem LawAt.wrap {s : ByteArray} {k : Nat} {wv : Int} {ob : Bool} (h : LawAt s k wv ob) (h1 : 48 ≤ bt s k) (h2 : bt s k ≤ 57) (h18 : k < 18) :
    wrap64 (wrap64 (wv * 10) + (bt s k - 48)) = wv * 10 + (bt s k - 48) := by
  have e1 : min k 18 = k := Nat.min_eq_left (by omega)
  have a := h.lo
  have b := h.hi
  rw [e1] at b
  have c : (10 : Int) ^ (k + 1) ≤ 1000000000000000000 := pow_le_18 (by omega)
  rw [Int.pow_succ] at c
  unfold wrap64
  omega
/-- What the law asks in the end. -/
theorem LawAt.fin_bad {s : ByteArray} {wv n : Int} {b : Bool} (h : LawAt s s.size wv true) (r : Res s n b) : b = false := by
  cases b with
  | false => rfl
  | true =>
    obtain ⟨h0, ha⟩ := r.ok.mp rfl
    rcases h.oth.mp rfl with h' | h'
    · exact absurd h' h0
    · exact absurd ha h'
theorem LawAt.fin_good {s : ByteArray} {wv n : Int} {b : Bool} (h : LawAt s s.size wv false) (r : Res s n b) (h18 : ¬ 18 < s.size) : b = true ∧ n = wv := by
  have hs0 : s.size ≠ 0 := fun e => by have := h.oth.mpr (.inl e); cases this
  have ha : AllD s s.size := Classical.byContradiction fun e => by have := h.oth.mpr (.inr e); cases this
  have hb : b = true := r.ok.mpr ⟨hs0, ha⟩
  refine ⟨hb, ?_⟩
  rw [r.num hb (by omega), h.num ha, Nat.min_eq_left (by omega)]

theorem law_any (s : ByteArray) (w : World) (hs : s.size ≤ 140737488351232) : Calls Try.prog 3 #[.string s] w (fun e w' => e = .returned (.bool true) ∧ Below w.heap.size w w') := by
  have HS := Aside0.mk hs
  clear hs
  by_cases h1 : (2147483647 : Int) < (s.size : Int)
  · go_enter Try.func3, Try.ntmps3
    go_wp2
    go_ret
    exact ⟨rfl, Below.refl _ _⟩
  by_cases h2 : (65536 : Int) < (s.size : Int)
  · go_enter Try.func3, Try.ntmps3
    go_wp2
    go_ret
    exact ⟨rfl, Below.refl _ _⟩
  · go_enter Try.func3, Try.ntmps3
    go_wp2
    have HB : Aside0 (s.size ≤ 65536) := ⟨by omega⟩
    clear h1 h2
    go_loopg [3, 4, 5] s.size (fun kq x3 x4 x5 w' => ∃ (i : Int) (k : Nat) (wv : Int) (ob : Bool), x3 = .int .i64 wv ∧ x4 = .bool ob ∧ x5 = .int .i64 i ∧ Aside0 (i = k) ∧ Aside0 (k + kq = s.size) ∧ Aside0 (LawAt s k wv ob) ∧ Drawn0 w w')
    case atStart => exact ⟨0, 0, 0, _, rfl, rfl, rfl, ⟨rfl⟩, ⟨by omega⟩, ⟨LawAt.start s⟩, Drawn0.refl _⟩
    case round =>
      obtain ⟨i, k, wv, ob, rfl, rfl, rfl, HI, HK, HA, ⟨m1, rfl⟩⟩ := hrel
      have p1 : (0 : Int) ≤ i := by have := HI.out; omega
      have p2 : 0 ≤ wv := HA.out.bounds.1
      have p3 : wv < 1000000000000000000 := HA.out.bounds.2
      have p4 : i ≤ 65536 := by have := HI.out; have := HB.out; have := HA.out.le; omega
      by_cases hlt : i < (s.size : Int)
      · have c1 : decide (i < (s.size : Int)) = true := decide_eq_true hlt
        have hx2 := bt_at s i
        have HL : Aside0 (k < s.size) := ⟨by have := HI.out; omega⟩
        have HE : Aside0 (bt s i = bt s k) := ⟨by rw [HI.out]⟩
        by_cases c3 : bt s i < 48
        · have d3 : decide (bt s i < 48) = true := decide_eq_true c3
          have HC := Aside0.mk (HA.out.bad HL.out (.inl (by rw [← HE.out]; exact c3)))
          clear c3
          go_wp2
          go_roundg (s.size - (k + 1))
          case measure => have := HK.out; have := HL.out; omega
          case rel => exact ⟨_, k + 1, _, _, rfl, rfl, rfl, ⟨by have := HI.out; omega⟩, ⟨by have := HL.out; omega⟩, HC, Drawn0.step (Drawn0.refl _) _⟩
        · have d3 : decide (bt s i < 48) = false := decide_eq_false c3
          by_cases c4 : 57 < bt s i
          · have d4 : decide (57 < bt s i) = true := decide_eq_true c4
            have HC := Aside0.mk (HA.out.bad HL.out (.inr (by rw [← HE.out]; exact c4)))
            clear c3 c4
            go_wp2
            go_roundg (s.size - (k + 1))
            case measure => have := HK.out; have := HL.out; omega
            case rel => exact ⟨_, k + 1, _, _, rfl, rfl, rfl, ⟨by have := HI.out; omega⟩, ⟨by have := HL.out; omega⟩, HC, Drawn0.step (Drawn0.refl _) _⟩
          · have d4 : decide (57 < bt s i) = false := decide_eq_false c4
            have b1 : 48 ≤ bt s k := by have := HE.out; omega
            have b2 : bt s k ≤ 57 := by have := HE.out; omega
            have HBB := Aside0.mk (And.intro b1 b2)
            clear b1 b2
            by_cases c5 : i < 18
            · have HC := Aside0.mk (HA.out.good HL.out HBB.out.1 HBB.out.2 (by have := HI.out; omega))
              go_wp2
              go_roundg (s.size - (k + 1))
              case measure => have := HK.out; have := HL.out; omega
              case rel => exact ⟨_, k + 1, _, _, rfl, rfl, rfl, ⟨by have := HI.out; omega⟩, ⟨by have := HL.out; omega⟩, ⟨by rw [HE.out, HA.out.wrap HBB.out.1 HBB.out.2 (by have := HI.out; omega)]; exact HC.out⟩, Drawn0.step (Drawn0.refl _) _⟩
            · have HC := Aside0.mk (HA.out.more HL.out HBB.out.1 HBB.out.2 (by have := HI.out; omega))
              go_wp2
              go_roundg (s.size - (k + 1))
              case measure => have := HK.out; have := HL.out; omega
              case rel => exact ⟨_, k + 1, _, _, rfl, rfl, rfl, ⟨by have := HI.out; omega⟩, ⟨by have := HL.out; omega⟩, HC, Drawn0.step (Drawn0.refl _) _⟩
      · obtain rfl : k = s.size := by have := HA.out.le; have := HI.out; omega
        have c1 : decide (i < (s.size : Int)) = false := decide_eq_false hlt
        clear hlt
        cases ob with
        | true =>
          go_wp2_with (go_at_call 8; refine (impl_any _ _ HS.out).mono ?_; rintro e w' ⟨n, b, rfl, hr, ⟨m2, rfl⟩⟩; obtain rfl := HA.out.fin_bad hr; clear hr)
          go_ret
          exact ⟨rfl, Drawn0.below ⟨⟨_, rfl⟩⟩⟩
        | false =>
          by_cases c6 : 18 < s.size
          · go_wp2_with (go_at_call 8; refine (impl_any _ _ HS.out).mono ?_; rintro e w' ⟨n, b, rfl, hr, ⟨m2, rfl⟩⟩; clear hr)
            go_ret
            exact ⟨rfl, Drawn0.below ⟨⟨_, rfl⟩⟩⟩
          · have p5 : wv ≤ 18446744073709551615 := by omega
            go_wp2_with (go_at_call 8; refine (impl_any _ _ HS.out).mono ?_; rintro e w' ⟨n, b, rfl, hr, ⟨m2, rfl⟩⟩; obtain ⟨rfl, rfl⟩ := HA.out.fin_good hr c6; clear hr)
            go_ret
            exact ⟨rfl, Drawn0.below ⟨⟨_, rfl⟩⟩⟩
end Go.Proofs.Yteehmhakcdaljaa.Pu
