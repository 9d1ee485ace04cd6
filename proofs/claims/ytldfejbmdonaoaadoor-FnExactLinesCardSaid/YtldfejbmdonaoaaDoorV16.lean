/- Joined by a program of mine from texts of this claim: Ub, Sh. -/
import Derived.Test.YtldfejbmdonaoaaDoorV15
import Derived.Test.YtldfejbmdonaoaaDoorV3
import Derived.Shelf.Spec.EncodeRune
import Derived.Shelf.Strconv.Itoa0
import Derived.Shelf.LaysM
import Derived.Shelf.Strconv.Clone
import Derived.Shelf.Strconv.SyntaxError
import Derived.Shelf.LaysC
import Derived.Shelf.Strconv.ToError
import Derived.Shelf.Strconv.Lower
import Derived.Shelf.Strconv.RangeError
import Derived.Shelf.Strconv.ToErrorRange
import Derived.Shelf.Bits.Mul64
import Derived.Test.YtldfejbmdonaoaaDoorProg
namespace Go.Proofs.YtldfejbmdonaoaaDoor.Ub
open Go.RowKit YtldfejbmdonaoaaDoorW.PrintWords YtldfejbmdonaoaaDoorW.PrintLast YtldfejbmdonaoaaDoorW.PrintMore Tp Te
set_option linter.unusedVariables false
set_option linter.unusedSimpArgs false
inductive BodyW (u : ByteArray) : Int → Prop where
  | nil {i : Int} (h : i = (u.size : Int)) : BodyW u i
  | plain {i : Int} (h0 : i < (u.size : Int)) (h : 32 ≤ bt u i ∧ bt u i ≠ 92) (t : BodyW u (i + 1)) : BodyW u i
  | short {i : Int} (h : bt u i = 92) (he : esc (bt u (i + 1)) = true) (t : BodyW u (i + 2)) : BodyW u i
  | uni {i : Int} (h : bt u i = 92) (hu : bt u (i + 1) = 117) (hh : hex4 u (i + 2) = true) (t : BodyW u (i + 6)) : BodyW u i
inductive BodyP (u : ByteArray) : Int → List Int → Prop where
  | nil {i : Int} (h : i = (u.size : Int)) : BodyP u i []
  | plain {i : Int} {l : List Int} (h0 : i < (u.size : Int)) (h : 32 ≤ bt u i ∧ bt u i ≠ 92) (t : BodyP u (i + 1) l) : BodyP u i (bt u i :: l)
  | short {i : Int} {l : List Int} (h : bt u i = 92) (he : esc (bt u (i + 1)) = true) (t : BodyP u (i + 2) l) : BodyP u i (escV (bt u (i + 1)) :: l)
  | uni {i : Int} {l : List Int} (h : bt u i = 92) (hu : bt u (i + 1) = 117) (hh : hex4 u (i + 2) = true) (hn : hexV u (i + 2) < 55296 ∨ 57343 < hexV u (i + 2)) (t : BodyP u (i + 6) l) : BodyP u i (runeL (hexV u (i + 2)) ++ l)
  | pair {i : Int} {l : List Int} (h : bt u i = 92) (hu : bt u (i + 1) = 117) (hh : hex4 u (i + 2) = true) (hn : 55296 ≤ hexV u (i + 2) ∧ hexV u (i + 2) < 56320) (h6 : bt u (i + 6) = 92) (h7 : bt u (i + 7) = 117) (h8 : hex4 u (i + 8) = true)
      (hm : 56320 ≤ hexV u (i + 8) ∧ hexV u (i + 8) ≤ 57343) (t : BodyP u (i + 12) l) : BodyP u i (runeL (65536 + (hexV u (i + 2) - 55296) * 1024 + (hexV u (i + 8) - 56320)) ++ l)
section
variable {s : ByteArray} {a e : Int} (h0 : 0 ≤ a) (he : e ≤ (s.size : Int))
include h0 he
theorem sub_bt {x : Int} (h1 : 0 ≤ x) (h2 : a + x < e) : bt (s.extract a.toNat e.toNat) x = bt s (a + x) := by
  have h := Bt.bt_extract (s := s) (a := a.toNat) (b := e.toNat) (by omega) (j := x.toNat) (by omega)
  rw [show ((x.toNat : Nat) : Int) = x by omega, show ((a.toNat + x.toNat : Nat) : Int) = a + x by omega] at h
  exact h
theorem sub_hex {x : Int} (h1 : 0 ≤ x) (h2 : a + x + 3 < e) : hex4 (s.extract a.toNat e.toNat) x = hex4 s (a + x) ∧ hexV (s.extract a.toNat e.toNat) x = hexV s (a + x) := by
  unfold hex4 hexV
  rw [sub_bt h0 he h1 (by omega), sub_bt h0 he (x := x + 1) (by omega) (by omega), sub_bt h0 he (x := x + 2) (by omega) (by omega), sub_bt h0 he (x := x + 3) (by omega) (by omega),
    show a + (x + 1) = a + x + 1 by omega, show a + (x + 2) = a + x + 2 by omega, show a + (x + 3) = a + x + 3 by omega]
  exact ⟨rfl, rfl⟩
end
theorem body_of {s : ByteArray} : ∀ (n : Nat) (i : Int) {l : List Int} {p : Bool} {j : Int}, textR s n i = some (l, p, j) → ∀ a : Int, 0 ≤ a → a ≤ i →
    BodyW (s.extract a.toNat (j - 1).toNat) (i - a) ∧ (p = true → BodyP (s.extract a.toNat (j - 1).toNat) (i - a) l) := by
  intro n
  induction n with
  | zero => intro i l p j h; exact absurd h (by simp [textR])
  | succ n ih =>
    intro i l p j h a h0 hai
    have hle := strR_le _ _ h
    have hz : (s.extract a.toNat (j - 1).toNat).size = (j - 1 - a).toNat := by rw [ByteArray.size_extract]; omega
    have he : j - 1 ≤ (s.size : Int) := by omega
    unfold textR at h
    by_cases c1 : bt s i < 32
    · rw [if_pos c1] at h; exact absurd h (by simp)
    rw [if_neg c1] at h
    by_cases c2 : bt s i = 34
    · rw [if_pos c2] at h
      simp only [Option.some.injEq, Prod.mk.injEq] at h
      obtain ⟨rfl, rfl, rfl⟩ := h
      exact ⟨.nil (by rw [hz]; omega), fun _ => .nil (by rw [hz]; omega)⟩
    rw [if_neg c2] at h
    by_cases c3 : bt s i = 92
    · rw [if_pos c3] at h
      replace h := Option.bind_eq_some_iff.mp h
      obtain ⟨⟨e, b, i'⟩, hE, h⟩ := h
      replace h := Option.bind_eq_some_iff.mp h
      obtain ⟨⟨l', p', j'⟩, hT, h⟩ := h
      simp only [Option.some.injEq, Prod.mk.injEq] at h
      obtain ⟨rfl, rfl, rfl⟩ := h
      have hj' : i' + 1 ≤ j' ∧ j' ≤ (s.size : Int) := strR_le _ _ hT
      have hEl := escR_le hE
      obtain ⟨ihW, ihP⟩ := ih i' hT a h0 (by omega)
      have b0 : bt (s.extract a.toNat (j' - 1).toNat) (i - a) = 92 := by rw [sub_bt h0 he (by omega) (by omega), show a + (i - a) = i by omega]; exact c3
      have b1 : bt (s.extract a.toNat (j' - 1).toNat) (i - a + 1) = bt s (i + 1) := by rw [sub_bt h0 he (by omega) (by omega), show a + (i - a + 1) = i + 1 by omega]
      unfold escR at hE
      by_cases d1 : bt s (i + 1) = 117
      · rw [if_pos d1] at hE
        by_cases d2 : hex4 s (i + 1 + 1) = true
        · rw [if_pos d2] at hE
          have step : i' = i + 6 ∨ i' = i + 12 := by
            repeat' split at hE
            all_goals first | (simp only [Option.some.injEq, Prod.mk.injEq] at hE; omega) | (exact absurd hE (by simp))
          have x2 := sub_hex h0 he (x := i - a + 2) (by omega) (by rcases step with h | h <;> omega)
          rw [show a + (i - a + 2) = i + 1 + 1 by omega] at x2
          by_cases d3 : hexV s (i + 1 + 1) < 55296 ∨ hexV s (i + 1 + 1) > 57343
          · rw [if_pos d3] at hE
            simp only [Option.some.injEq, Prod.mk.injEq] at hE
            obtain ⟨rfl, rfl, rfl⟩ := hE
            rw [show i + 1 + 5 - a = i - a + 6 by omega] at ihW ihP
            refine ⟨.uni b0 (b1.trans d1) (x2.1.trans d2) ihW, fun hp => ?_⟩
            have := BodyP.uni b0 (b1.trans d1) (x2.1.trans d2) (by rw [x2.2]; exact d3) (ihP (by simpa using hp))
            rw [x2.2] at this
            exact this
          · rw [if_neg d3] at hE
            by_cases d4 : hexV s (i + 1 + 1) ≥ 56320 ∨ i + 1 + 6 ≥ (s.size : Int) ∨ bt s (i + 1 + 5) ≠ 92 ∨ bt s (i + 1 + 6) ≠ 117
            · rw [if_pos d4] at hE
              simp only [Option.some.injEq, Prod.mk.injEq] at hE
              obtain ⟨rfl, rfl, rfl⟩ := hE
              rw [show i + 1 + 5 - a = i - a + 6 by omega] at ihW
              exact ⟨.uni b0 (b1.trans d1) (x2.1.trans d2) ihW, fun hp => absurd hp (by simp)⟩
            · rw [if_neg d4] at hE
              by_cases d5 : hex4 s (i + 1 + 7) = true
              · rw [if_pos d5] at hE
                have hi' : i' = i + 12 := by
                  split at hE <;> (simp only [Option.some.injEq, Prod.mk.injEq] at hE; omega)
                subst hi'
                have e6 : bt (s.extract a.toNat (j' - 1).toNat) (i - a + 6) = 92 := by
                  rw [sub_bt h0 he (by omega) (by omega), show a + (i - a + 6) = i + 1 + 5 by omega]
                  exact Decidable.byContradiction fun h => d4 (.inr (.inr (.inl h)))
                have e7 : bt (s.extract a.toNat (j' - 1).toNat) (i - a + 7) = 117 := by
                  rw [sub_bt h0 he (by omega) (by omega), show a + (i - a + 7) = i + 1 + 6 by omega]
                  exact Decidable.byContradiction fun h => d4 (.inr (.inr (.inr h)))
                have x8 := sub_hex h0 he (x := i - a + 8) (by omega) (by omega)
                rw [show a + (i - a + 8) = i + 1 + 7 by omega] at x8
                rw [show i + 12 - a = i - a + 12 by omega] at ihW ihP
                have W6 : BodyW (s.extract a.toNat (j' - 1).toNat) (i - a + 6) := .uni e6 (by rw [show i - a + 6 + 1 = i - a + 7 by omega]; exact e7) (by rw [show i - a + 6 + 2 = i - a + 8 by omega]; exact x8.1.trans d5) (by rw [show i - a + 6 + 6 = i - a + 12 by omega]; exact ihW)
                refine ⟨.uni b0 (b1.trans d1) (x2.1.trans d2) W6, fun hp => ?_⟩
                by_cases d6 : hexV s (i + 1 + 7) < 56320 ∨ hexV s (i + 1 + 7) > 57343
                · rw [if_pos d6] at hE
                  simp only [Option.some.injEq, Prod.mk.injEq] at hE
                  obtain ⟨_, rfl, _⟩ := hE
                  exact absurd hp (by simp)
                · rw [if_neg d6] at hE
                  simp only [Option.some.injEq, Prod.mk.injEq] at hE
                  obtain ⟨rfl, rfl, _⟩ := hE
                  have := BodyP.pair b0 (b1.trans d1) (x2.1.trans d2) (by rw [x2.2]; omega) e6 e7 (x8.1.trans d5) (by rw [x8.2]; omega) (ihP (by simpa using hp))
                  rw [x2.2, x8.2] at this
                  first
                    | exact this
                    | (rw [show (65536 + (hexV s (i + 1 + 1) - 55296) * 1024 + hexV s (i + 1 + 7) - 56320) = 65536 + (hexV s (i + 1 + 1) - 55296) * 1024 + (hexV s (i + 1 + 7) - 56320) by omega]; exact this)
              · rw [if_neg d5] at hE; exact absurd hE (by simp)
        · rw [if_neg d2] at hE; exact absurd hE (by simp)
      · rw [if_neg d1] at hE
        by_cases d2 : esc (bt s (i + 1)) = true
        · rw [if_pos d2] at hE
          simp only [Option.some.injEq, Prod.mk.injEq] at hE
          obtain ⟨rfl, rfl, rfl⟩ := hE
          rw [show i + 1 + 1 - a = i - a + 2 by omega] at ihW ihP
          refine ⟨.short b0 (by rw [b1]; exact d2) ihW, fun hp => ?_⟩
          have := BodyP.short b0 (by rw [b1]; exact d2) (ihP (by simpa using hp))
          rw [b1] at this
          exact this
        · rw [if_neg d2] at hE; exact absurd hE (by simp)
    · rw [if_neg c3] at h
      replace h := Option.bind_eq_some_iff.mp h
      obtain ⟨⟨l', p', j'⟩, hT, h⟩ := h
      simp only [Option.some.injEq, Prod.mk.injEq] at h
      obtain ⟨rfl, rfl, rfl⟩ := h
      have hj' : i + 1 + 1 ≤ j' ∧ j' ≤ (s.size : Int) := strR_le _ _ hT
      obtain ⟨ihW, ihP⟩ := ih (i + 1) hT a h0 (by omega)
      have b0 : bt (s.extract a.toNat (j' - 1).toNat) (i - a) = bt s i := by rw [sub_bt h0 he (by omega) (by omega), show a + (i - a) = i by omega]
      rw [show i + 1 - a = i - a + 1 by omega] at ihW ihP
      refine ⟨.plain (by rw [hz]; omega) (by rw [b0]; omega) ihW, fun hp => ?_⟩
      have := BodyP.plain (by rw [hz]; omega) (by rw [b0]; omega) (ihP hp)
      rw [b0] at this
      exact this
end Go.Proofs.YtldfejbmdonaoaaDoor.Ub
namespace Go.Proofs.YtldfejbmdonaoaaDoor.Sh
open Go.Proofs
open Go.Shelf
def lays7x30_ren : Go.Shelf.Ren := ⟨fun | 30 => 56 | 47 => 63 | n => n, fun | 30 => 54 | 21 => 21 | 3 => 3 | 27 => 104 | 4 => 4 | 5 => 5 | 0 => 0 | 25 => 103 | n => n, fun | n => n⟩
theorem lays7x30 : Go.Proofs.Lays7.n30 Tryd.prog lays7x30_ren := {
  mixed := by kernel_rfl
  f30 := Tryd.func56.trans (congrArg some (by kernel_rfl))
  f47 := Tryd.func63.trans (congrArg some (by kernel_rfl))
  t0 := Tryd.underlying0
  a0 := Tryd.isAgg0
  z0 := Tryd.sizeOf0
  v0 := Tryd.zeroValue0
  i0 := by kernel_rfl
  t3 := Tryd.underlying3
  a3 := Tryd.isAgg3
  z3 := Tryd.sizeOf3
  v3 := Tryd.zeroValue3
  i3 := by kernel_rfl
  t4 := Tryd.underlying4
  a4 := Tryd.isAgg4
  z4 := Tryd.sizeOf4
  v4 := Tryd.zeroValue4
  i4 := by kernel_rfl
  t5 := Tryd.underlying5
  a5 := Tryd.isAgg5
  z5 := Tryd.sizeOf5
  v5 := Tryd.zeroValue5
  i5 := by kernel_rfl
  t21 := Tryd.underlying21
  a21 := Tryd.isAgg21
  z21 := Tryd.sizeOf21
  v21 := Tryd.zeroValue21
  i21 := by kernel_rfl
  t25 := Tryd.underlying103
  a25 := Tryd.isAgg103
  z25 := Tryd.sizeOf103
  v25 := Tryd.zeroValue103
  i25 := by kernel_rfl
  t27 := Tryd.underlying104
  a27 := Tryd.isAgg104
  z27 := Tryd.sizeOf104
  v27 := Tryd.zeroValue104
  i27 := by kernel_rfl
  t30 := Tryd.underlying54
  a30 := Tryd.isAgg54
  z30 := Tryd.sizeOf54
  v30 := Tryd.zeroValue54
  i30 := by kernel_rfl }
open Go.RowKit Go.Lib in
theorem utf8_EncodeRune (b off len cap : Nat) (r : Int) (hlo : -2147483648 ≤ r) (hhi : r ≤ 2147483647) (w : World) (hl : (Lib.runeCells r).length ≤ len) (hc : ∀ j, j < (Lib.runeCells r).length → (w.cell? ⟨b, off + j, none⟩).isSome = true) (hf : ∀ j, j < (Lib.runeCells r).length → w.frozen? ⟨b, off + j, none⟩ = false) :
    Calls Tryd.prog 56 #[.slice (some ⟨b, off, none⟩) len cap, .int .i32 r] w fun e w' => e = .returned (.int .i64 (Lib.runeCells r).length) ∧ w' = w.setCells b off (Lib.runeCells r) := Any7.utf8_EncodeRune lays7x30 b off len cap r hlo hhi w hl hc hf
end Go.Proofs.YtldfejbmdonaoaaDoor.Sh