/- Joined by a program of mine from texts of this claim: Ub, Sh, Ru. -/
import Derived.Test.YtldfejbmdonaoaaGreatDoorZB27
import Derived.Test.YtldfejbmdonaoaaGreatDoorZB2
import Derived.Shelf.Spec.EncodeRune
import Derived.Shelf.LaysM
import Derived.Shelf.Strconv.Clone
import Derived.Shelf.Strconv.SyntaxError
import Derived.Shelf.LaysC
import Derived.Shelf.Strconv.ToError
import Derived.Shelf.Strconv.Lower
import Derived.Shelf.Strconv.RangeError
import Derived.Shelf.Strconv.ToErrorRange
import Derived.Shelf.Unicode.Decode
import Derived.Shelf.Bits.Mul64
import Derived.Shelf.Unicode.DecodeSlow
import Derived.Shelf.Unicode.DecodeAny
import Derived.Test.YtldfejbmdonaoaaGreatDoorProg
import Derived.Deep.QuietTactic
import Derived.BigQuiet
namespace Go.Proofs.YtldfejbmdonaoaaGreatDoor.Ub
open Go.RowKit YtldfejbmdonaoaaGreatDoorW.PrintWords YtldfejbmdonaoaaGreatDoorW.PrintLast YtldfejbmdonaoaaGreatDoorW.PrintMore Tp Te
set_option linter.unusedVariables false
set_option linter.unusedSimpArgs false
inductive BodyW (u : ByteArray) : Int → Prop where
  | nil {i : Int} (h : i = (u.size : Int)) : BodyW u i
  | plain {i : Int} (h0 : i < (u.size : Int)) (h : 32 ≤ bt u i ∧ bt u i ≠ 92) (t : BodyW u (i + 1)) : BodyW u i
  | short {i : Int} (h : bt u i = 92) (he : esc (bt u (i + 1)) = true) (t : BodyW u (i + 2)) : BodyW u i
  | uni {i : Int} (h : bt u i = 92) (hu : bt u (i + 1) = 117) (hh : hex4 u (i + 2) = true) (t : BodyW u (i + 6)) : BodyW u i
inductive BodyP (u : ByteArray) : Int → List Int → Prop where
  | nil {i : Int} (h : i = (u.size : Int)) : BodyP u i []
  | plain {i : Int} {l : List Int} (h0 : i < (u.size : Int)) (h : 32 ≤ bt u i ∧ bt u i ≠ 92) (t : BodyP u (i + 1) l) : BodyP u i (bt u i :: l)
  | short {i : Int} {l : List Int} (h : bt u i = 92) (he : esc (bt u (i + 1)) = true) (t : BodyP u (i + 2) l) : BodyP u i (escV (bt u (i + 1)) :: l)
  | uni {i : Int} {l : List Int} (h : bt u i = 92) (hu : bt u (i + 1) = 117) (hh : hex4 u (i + 2) = true) (hn : hexV u (i + 2) < 55296 ∨ 57343 < hexV u (i + 2)) (t : BodyP u (i + 6) l) : BodyP u i (runeL (hexV u (i + 2)) ++ l)
  | pair {i : Int} {l : List Int} (h : bt u i = 92) (hu : bt u (i + 1) = 117) (hh : hex4 u (i + 2) = true) (hn : 55296 ≤ hexV u (i + 2) ∧ hexV u (i + 2) < 56320) (h6 : bt u (i + 6) = 92) (h7 : bt u (i + 7) = 117) (h8 : hex4 u (i + 8) = true)
      (hm : 56320 ≤ hexV u (i + 8) ∧ hexV u (i + 8) ≤ 57343) (t : BodyP u (i + 12) l) : BodyP u i (runeL (65536 + (hexV u (i + 2) - 55296) * 1024 + (hexV u (i + 8) - 56320)) ++ l)
section
variable {s : ByteArray} {a e : Int} (h0 : 0 ≤ a) (he : e ≤ (s.size : Int))
include h0 he
theorem sub_bt {x : Int} (h1 : 0 ≤ x) (h2 : a + x < e) : bt (s.extract a.toNat e.toNat) x = bt s (a + x) := by
  have h := Bt.bt_extract (s := s) (a := a.toNat) (b := e.toNat) (by omega) (j := x.toNat) (by omega)
  rw [show ((x.toNat : Nat) : Int) = x by omega, show ((a.toNat + x.toNat : Nat) : Int) = a + x by omega] at h
  exact h
theorem sub_hex {x : Int} (h1 : 0 ≤ x) (h2 : a + x + 3 < e) : hex4 (s.extract a.toNat e.toNat) x = hex4 s (a + x) ∧ hexV (s.extract a.toNat e.toNat) x = hexV s (a + x) := by
  unfold hex4 hexV
  rw [sub_bt h0 he h1 (by omega), sub_bt h0 he (x := x + 1) (by omega) (by omega), sub_bt h0 he (x := x + 2) (by omega) (by omega), sub_bt h0 he (x := x + 3) (by omega) (by omega),
    show a + (x + 1) = a + x + 1 by omega, show a + (x + 2) = a + x + 2 by omega, show a + (x + 3) = a + x + 3 by omega]
  exact ⟨rfl, rfl⟩
end
theorem body_of {s : ByteArray} : ∀ (n : Nat) (i : Int) {l : List Int} {p : Bool} {j : Int}, textR s n i = some (l, p, j) → ∀ a : Int, 0 ≤ a → a ≤ i →
    BodyW (s.extract a.toNat (j - 1).toNat) (i - a) ∧ (p = true → BodyP (s.extract a.toNat (j - 1).toNat) (i - a) l) := by
  intro n
  induction n with
  | zero => intro i l p j h; exact absurd h (by simp [textR])
  | succ n ih =>
    intro i l p j h a h0 hai
    have hle := strR_le _ _ h
    have hz : (s.extract a.toNat (j - 1).toNat).size = (j - 1 - a).toNat := by rw [ByteArray.size_extract]; omega
    have he : j - 1 ≤ (s.size : Int) := by omega
    unfold textR at h
    by_cases c1 : bt s i < 32
    · rw [if_pos c1] at h; exact absurd h (by simp)
    rw [if_neg c1] at h
    by_cases c2 : bt s i = 34
    · rw [if_pos c2] at h
      simp only [Option.some.injEq, Prod.mk.injEq] at h
      obtain ⟨rfl, rfl, rfl⟩ := h
      exact ⟨.nil (by rw [hz]; omega), fun _ => .nil (by rw [hz]; omega)⟩
    rw [if_neg c2] at h
    by_cases c3 : bt s i = 92
    · rw [if_pos c3] at h
      replace h := Option.bind_eq_some_iff.mp h
      obtain ⟨⟨e, b, i'⟩, hE, h⟩ := h
      replace h := Option.bind_eq_some_iff.mp h
      obtain ⟨⟨l', p', j'⟩, hT, h⟩ := h
      simp only [Option.some.injEq, Prod.mk.injEq] at h
      obtain ⟨rfl, rfl, rfl⟩ := h
      have hj' : i' + 1 ≤ j' ∧ j' ≤ (s.size : Int) := strR_le _ _ hT
      have hEl := escR_le hE
      obtain ⟨ihW, ihP⟩ := ih i' hT a h0 (by omega)
      have b0 : bt (s.extract a.toNat (j' - 1).toNat) (i - a) = 92 := by rw [sub_bt h0 he (by omega) (by omega), show a + (i - a) = i by omega]; exact c3
      have b1 : bt (s.extract a.toNat (j' - 1).toNat) (i - a + 1) = bt s (i + 1) := by rw [sub_bt h0 he (by omega) (by omega), show a + (i - a + 1) = i + 1 by omega]
      unfold escR at hE
      by_cases d1 : bt s (i + 1) = 117
      · rw [if_pos d1] at hE
        by_cases d2 : hex4 s (i + 1 + 1) = true
        · rw [if_pos d2] at hE
          have step : i' = i + 6 ∨ i' = i + 12 := by
            repeat' split at hE
            all_goals first | (simp only [Option.some.injEq, Prod.mk.injEq] at hE; omega) | (exact absurd hE (by simp))
          have x2 := sub_hex h0 he (x := i - a + 2) (by omega) (by rcases step with h | h <;> omega)
          rw [show a + (i - a + 2) = i + 1 + 1 by omega] at x2
          by_cases d3 : hexV s (i + 1 + 1) < 55296 ∨ hexV s (i + 1 + 1) > 57343
          · rw [if_pos d3] at hE
            simp only [Option.some.injEq, Prod.mk.injEq] at hE
            obtain ⟨rfl, rfl, rfl⟩ := hE
            rw [show i + 1 + 5 - a = i - a + 6 by omega] at ihW ihP
            refine ⟨.uni b0 (b1.trans d1) (x2.1.trans d2) ihW, fun hp => ?_⟩
            have := BodyP.uni b0 (b1.trans d1) (x2.1.trans d2) (by rw [x2.2]; exact d3) (ihP (by simpa using hp))
            rw [x2.2] at this
            exact this
          · rw [if_neg d3] at hE
            by_cases d4 : hexV s (i + 1 + 1) ≥ 56320 ∨ i + 1 + 6 ≥ (s.size : Int) ∨ bt s (i + 1 + 5) ≠ 92 ∨ bt s (i + 1 + 6) ≠ 117
            · rw [if_pos d4] at hE
              simp only [Option.some.injEq, Prod.mk.injEq] at hE
              obtain ⟨rfl, rfl, rfl⟩ := hE
              rw [show i + 1 + 5 - a = i - a + 6 by omega] at ihW
              exact ⟨.uni b0 (b1.trans d1) (x2.1.trans d2) ihW, fun hp => absurd hp (by simp)⟩
            · rw [if_neg d4] at hE
              by_cases d5 : hex4 s (i + 1 + 7) = true
              · rw [if_pos d5] at hE
                have hi' : i' = i + 12 := by
                  split at hE <;> (simp only [Option.some.injEq, Prod.mk.injEq] at hE; omega)
                subst hi'
                have e6 : bt (s.extract a.toNat (j' - 1).toNat) (i - a + 6) = 92 := by
                  rw [sub_bt h0 he (by omega) (by omega), show a + (i - a + 6) = i + 1 + 5 by omega]
                  exact Decidable.byContradiction fun h => d4 (.inr (.inr (.inl h)))
                have e7 : bt (s.extract a.toNat (j' - 1).toNat) (i - a + 7) = 117 := by
                  rw [sub_bt h0 he (by omega) (by omega), show a + (i - a + 7) = i + 1 + 6 by omega]
                  exact Decidable.byContradiction fun h => d4 (.inr (.inr (.inr h)))
                have x8 := sub_hex h0 he (x := i - a + 8) (by omega) (by omega)
                rw [show a + (i - a + 8) = i + 1 + 7 by omega] at x8
                rw [show i + 12 - a = i - a + 12 by omega] at ihW ihP
                have W6 : BodyW (s.extract a.toNat (j' - 1).toNat) (i - a + 6) := .uni e6 (by rw [show i - a + 6 + 1 = i - a + 7 by omega]; exact e7) (by rw [show i - a + 6 + 2 = i - a + 8 by omega]; exact x8.1.trans d5) (by rw [show i - a + 6 + 6 = i - a + 12 by omega]; exact ihW)
                refine ⟨.uni b0 (b1.trans d1) (x2.1.trans d2) W6, fun hp => ?_⟩
                by_cases d6 : hexV s (i + 1 + 7) < 56320 ∨ hexV s (i + 1 + 7) > 57343
                · rw [if_pos d6] at hE
                  simp only [Option.some.injEq, Prod.mk.injEq] at hE
                  obtain ⟨_, rfl, _⟩ := hE
                  exact absurd hp (by simp)
                · rw [if_neg d6] at hE
                  simp only [Option.some.injEq, Prod.mk.injEq] at hE
                  obtain ⟨rfl, rfl, _⟩ := hE
                  have := BodyP.pair b0 (b1.trans d1) (x2.1.trans d2) (by rw [x2.2]; omega) e6 e7 (x8.1.trans d5) (by rw [x8.2]; omega) (ihP (by simpa using hp))
                  rw [x2.2, x8.2] at this
                  first
                    | exact this
                    | (rw [show (65536 + (hexV s (i + 1 + 1) - 55296) * 1024 + hexV s (i + 1 + 7) - 56320) = 65536 + (hexV s (i + 1 + 1) - 55296) * 1024 + (hexV s (i + 1 + 7) - 56320) by omega]; exact this)
              · rw [if_neg d5] at hE; exact absurd hE (by simp)
        · rw [if_neg d2] at hE; exact absurd hE (by simp)
      · rw [if_neg d1] at hE
        by_cases d2 : esc (bt s (i + 1)) = true
        · rw [if_pos d2] at hE
          simp only [Option.some.injEq, Prod.mk.injEq] at hE
          obtain ⟨rfl, rfl, rfl⟩ := hE
          rw [show i + 1 + 1 - a = i - a + 2 by omega] at ihW ihP
          refine ⟨.short b0 (by rw [b1]; exact d2) ihW, fun hp => ?_⟩
          have := BodyP.short b0 (by rw [b1]; exact d2) (ihP (by simpa using hp))
          rw [b1] at this
          exact this
        · rw [if_neg d2] at hE; exact absurd hE (by simp)
    · rw [if_neg c3] at h
      replace h := Option.bind_eq_some_iff.mp h
      obtain ⟨⟨l', p', j'⟩, hT, h⟩ := h
      simp only [Option.some.injEq, Prod.mk.injEq] at h
      obtain ⟨rfl, rfl, rfl⟩ := h
      have hj' : i + 1 + 1 ≤ j' ∧ j' ≤ (s.size : Int) := strR_le _ _ hT
      obtain ⟨ihW, ihP⟩ := ih (i + 1) hT a h0 (by omega)
      have b0 : bt (s.extract a.toNat (j' - 1).toNat) (i - a) = bt s i := by rw [sub_bt h0 he (by omega) (by omega), show a + (i - a) = i by omega]
      rw [show i + 1 - a = i - a + 1 by omega] at ihW ihP
      refine ⟨.plain (by rw [hz]; omega) (by rw [b0]; omega) ihW, fun hp => ?_⟩
      have := BodyP.plain (by rw [hz]; omega) (by rw [b0]; omega) (ihP hp)
      rw [b0] at this
      exact this
end Go.Proofs.YtldfejbmdonaoaaGreatDoor.Ub
namespace Go.Proofs.YtldfejbmdonaoaaGreatDoor.Sh
open Go.Proofs
open Go.Shelf
def lays7x30_ren : Go.Shelf.Ren := ⟨fun | 30 => 66 | 47 => 80 | n => n, fun | 30 => 53 | 21 => 21 | 3 => 3 | 27 => 112 | 4 => 4 | 5 => 5 | 0 => 0 | 25 => 92 | n => n, fun | n => n⟩
theorem lays7x30 : Go.Proofs.Lays7.n30 Tryz.prog lays7x30_ren := {
  mixed := by kernel_rfl
  f30 := Tryz.func66.trans (congrArg some (by kernel_rfl))
  f47 := Tryz.func80.trans (congrArg some (by kernel_rfl))
  t0 := Tryz.underlying0
  a0 := Tryz.isAgg0
  z0 := Tryz.sizeOf0
  v0 := Tryz.zeroValue0
  i0 := by kernel_rfl
  t3 := Tryz.underlying3
  a3 := Tryz.isAgg3
  z3 := Tryz.sizeOf3
  v3 := Tryz.zeroValue3
  i3 := by kernel_rfl
  t4 := Tryz.underlying4
  a4 := Tryz.isAgg4
  z4 := Tryz.sizeOf4
  v4 := Tryz.zeroValue4
  i4 := by kernel_rfl
  t5 := Tryz.underlying5
  a5 := Tryz.isAgg5
  z5 := Tryz.sizeOf5
  v5 := Tryz.zeroValue5
  i5 := by kernel_rfl
  t21 := Tryz.underlying21
  a21 := Tryz.isAgg21
  z21 := Tryz.sizeOf21
  v21 := Tryz.zeroValue21
  i21 := by kernel_rfl
  t25 := Tryz.underlying92
  a25 := Tryz.isAgg92
  z25 := Tryz.sizeOf92
  v25 := Tryz.zeroValue92
  i25 := by kernel_rfl
  t27 := Tryz.underlying112
  a27 := Tryz.isAgg112
  z27 := Tryz.sizeOf112
  v27 := Tryz.zeroValue112
  i27 := by kernel_rfl
  t30 := Tryz.underlying53
  a30 := Tryz.isAgg53
  z30 := Tryz.sizeOf53
  v30 := Tryz.zeroValue53
  i30 := by kernel_rfl }
open Go.RowKit Go.Lib in
theorem utf8_EncodeRune (b off len cap : Nat) (r : Int) (hlo : -2147483648 ≤ r) (hhi : r ≤ 2147483647) (w : World) (hl : (Lib.runeCells r).length ≤ len) (hc : ∀ j, j < (Lib.runeCells r).length → (w.cell? ⟨b, off + j, none⟩).isSome = true) (hf : ∀ j, j < (Lib.runeCells r).length → w.frozen? ⟨b, off + j, none⟩ = false) :
    Calls Tryz.prog 66 #[.slice (some ⟨b, off, none⟩) len cap, .int .i32 r] w fun e w' => e = .returned (.int .i64 (Lib.runeCells r).length) ∧ w' = w.setCells b off (Lib.runeCells r) := Any7.utf8_EncodeRune lays7x30 b off len cap r hlo hhi w hl hc hf
end Go.Proofs.YtldfejbmdonaoaaGreatDoor.Sh
namespace Go.Proofs.YtldfejbmdonaoaaGreatDoor.Ru
open Go.RowKit YtldfejbmdonaoaaGreatDoorW.PrintWords YtldfejbmdonaoaaGreatDoorW.PrintLast YtldfejbmdonaoaaGreatDoorW.PrintMore Te
set_option linter.unusedVariables false
set_option linter.unusedSimpArgs false
def hexP (s : ByteArray) : Nat → Int
  | 0 => 0
  | k + 1 => hexP s k * 16 + hv (bt s k)
theorem hexP_bd {s : ByteArray} (h : ∀ k : Nat, k < 4 → hx (bt s k) = true) : ∀ k : Nat, k ≤ 4 → 0 ≤ hexP s k ∧ hexP s k < 65536 ∧ (k < 4 → hexP s k < 4096) := by
  intro k hk
  have r0 := hv_range (h 0 (by omega))
  have r1 := hv_range (h 1 (by omega))
  have r2 := hv_range (h 2 (by omega))
  have r3 := hv_range (h 3 (by omega))
  have e : k = 0 ∨ k = 1 ∨ k = 2 ∨ k = 3 ∨ k = 4 := by omega
  rcases e with rfl | rfl | rfl | rfl | rfl <;> simp only [hexP] <;> omega
theorem or32 {c : Int} (h : 97 ≤ c ∧ c ≤ 102) : bits .or .u8 c 32 = c := by
  have e : c = 97 ∨ c = 98 ∨ c = 99 ∨ c = 100 ∨ c = 101 ∨ c = 102 := by omega
  rcases e with rfl | rfl | rfl | rfl | rfl | rfl <;> decide
theorem or32' {c : Int} (h : 65 ≤ c ∧ c ≤ 70) : bits .or .u8 c 32 = c + 32 := by
  have e : c = 65 ∨ c = 66 ∨ c = 67 ∨ c = 68 ∨ c = 69 ∨ c = 70 := by omega
  rcases e with rfl | rfl | rfl | rfl | rfl | rfl <;> decide
theorem lower_walk (c d : Int) (w : World) (h : bits .or .u8 c 32 = d) : Calls Tryz.prog 104 #[.int .u8 c] w fun e w' => e = .returned (.int .u8 d) ∧ w = w' := by
  go_enter Tryz.func104, Tryz.ntmps104
  go_wp2
  go_ret
  exact ⟨rfl, rfl⟩
set_option maxRecDepth 100000 in
set_option maxHeartbeats 8000000 in
theorem uint_inner (s : ByteArray) (w : World) (hs : s.size = 4) (hh : ∀ k : Nat, k < 4 → hx (bt s k) = true) :
    Calls Tryz.prog 89 #[.string s, .int .i64 16, .int .i64 64] w fun e w' => e = .returned (.tuple #[.int .u64 (hexP s 4), .nilIface]) ∧ Below w.heap.size w w' := by
  have HH := Aside0.mk hh
  have HP := Aside0.mk (hexP_bd hh)
  have kb := fun W => print_bytes (P := Tryz.prog) 9 53 5 Tryz.underlying9 Tryz.underlying53 Tryz.underlying5 s W
  have HR : Aside0 (Kd.C (Kd.int .u8) (Lib.bytesWorld w 5 s) (some ⟨w.heap.size, 0, none⟩) s.size (bytesOf s)) := ⟨Kd.C_of_reads (enc := Value.int .u8) (d := (0 : Int)) (h1 := fun _ => rfl) (bytes_reads w 5 s (by omega))⟩
  have HB := Aside0.mk (bytes_below (Below.refl _ w) (Nat.le_refl _) 5 s)
  have HS := Aside0.mk hs
  have hne : s.toList.isEmpty = false := by
    rw [Lib.toList_data]
    cases h : s.data.toList with
    | nil =>
      have : s.data.toList.length = 4 := by rw [Array.length_toList]; exact hs
      rw [h] at this
      exact absurd this (by decide)
    | cons _ _ => rfl
  have hne2 : ¬ s.toList = [] := by intro e; rw [e] at hne; exact absurd hne (by decide)
  clear hh hs
  go_enter Tryz.func89, Tryz.ntmps89
  go_wp2
  obtain ⟨B, hB⟩ : ∃ B, w.heap.size = B := ⟨_, rfl⟩
  obtain ⟨W1, hW1⟩ : ∃ W1, Lib.bytesWorld w 5 s = W1 := ⟨_, rfl⟩
  have HBS := Aside0.mk hB
  rw [hW1] at HR HB ⊢
  rw [hB] at HR HB ⊢
  clear hB hW1 kb hne hne2
  have HD : Aside0 (∀ k : Nat, k < 4 → W1.cell? ⟨B, k, none⟩ = some (.int .u8 (bt s k))) := ⟨fun k hk => by
    obtain ⟨ad, e, hx⟩ := Kd.at_int HR.out k (by omega) (by have := HS.out; omega)
    rw [rd_bytesOf] at hx
    obtain rfl : (⟨B, 0, none⟩ : Addr) = ad := by injection e
    rw [add_plain, Int.toNat_natCast] at hx
    exact hx⟩
  clear HR
  go_loopg [12, 13, 101] 4 (fun kq x12 x13 x101 wr => ∃ k : Nat, x12 = .bool false ∧ x13 = .int .u64 (hexP s k) ∧ x101 = .int .i64 (k : Int) ∧ wr = W1 ∧ Aside0 (k + kq = 4))
  case atStart => exact ⟨0, rfl, rfl, rfl, rfl, ⟨rfl⟩⟩
  case round =>
    obtain ⟨k, rfl, rfl, rfl, rfl, HQ⟩ := hrel
    by_cases hk : k < 4
    · have hkk : (k : Int) < (s.size : Int) := by have := HS.out; omega
      have k0 : (0 : Int) ≤ (k : Int) := by omega
      have hcell := HD.out k hk
      have hbd := HP.out k (by omega)
      have hP1 : hexP s (k + 1) = hexP s k * 16 + hv (bt s k) := rfl
      have hh := HH.out k hk
      have hr := hv_range hh
      have HM : Aside0 (k + 1 + (gk - 1) = 4 ∧ gk - 1 < gk) := ⟨by have := HQ.out; omega⟩
      obtain ⟨n, hn⟩ : ∃ n, hexP s k = n := ⟨_, rfl⟩
      obtain ⟨n1, hn1⟩ : ∃ n1, hexP s (k + 1) = n1 := ⟨_, rfl⟩
      obtain ⟨c, hc⟩ : ∃ c, bt s k = c := ⟨_, rfl⟩
      rw [hn] at hbd hP1 ⊢
      rw [hn1] at hP1
      rw [hc] at hcell hP1 hh hr
      have HN1 := Aside0.mk hn1
      have n0 : 0 ≤ n := hbd.1
      have n2 : n < 4096 := hbd.2.2 hk
      have hcase : (48 ≤ c ∧ c ≤ 57 ∧ n1 = n * 16 + (c - 48)) ∨ (97 ≤ c ∧ c ≤ 102 ∧ n1 = n * 16 + (c - 87)) ∨ (65 ≤ c ∧ c ≤ 70 ∧ n1 = n * 16 + (c - 55)) := by
        simp only [hx, Bool.or_eq_true, Bool.and_eq_true, decide_eq_true_eq] at hh
        unfold hv at hP1
        rcases hh with (⟨h1, h2⟩ | ⟨h1, h2⟩) | ⟨h1, h2⟩
        · rw [if_pos h2] at hP1; exact .inl ⟨h1, h2, hP1⟩
        · rw [if_neg (by omega), if_pos h1] at hP1; exact .inr (.inl ⟨h1, h2, hP1⟩)
        · rw [if_neg (by omega), if_neg (by omega)] at hP1; exact .inr (.inr ⟨h1, h2, hP1⟩)
      have w1 : IntKind.i64.wrap ((k : Int) + 1) = ((k + 1 : Nat) : Int) := by simp [IntKind.wrap, IntKind.signed, IntKind.bits]; omega
      clear hbd hP1 hh hr hn hn1 hc hk HD
      rcases hcase with ⟨h1, h2, h3⟩ | ⟨h1, h2, h3⟩ | ⟨h1, h2, h3⟩
      · have d1 : decide (48 ≤ c) = true := decide_eq_true h1
        have d2 : decide (c ≤ 57) = true := decide_eq_true h2
        have HE := Aside0.mk h3
        clear h3
        have hm : ¬ (IntKind.u64.wrap (IntKind.u64.wrap 18446744073709551616 - 1) < n * 16 + (c - 48)) := by
          rw [show IntKind.u64.wrap (IntKind.u64.wrap 18446744073709551616 - 1) = 18446744073709551615 by decide]
          omega
        go_wp2
        go_roundg (gk - 1)
        case measure => exact HM.out.2
        case rel => exact ⟨k + 1, rfl, (by rw [HN1.out, HE.out] <;> (congr 1; omega)), (by first | rfl | (congr 1; omega) | (congr 1)), rfl, ⟨HM.out.1⟩⟩
      · have d1 : decide (48 ≤ c) = true := decide_eq_true (by omega)
        have d2 : decide (c ≤ 57) = false := decide_eq_false (by omega)
        have hl := fun w => lower_walk c c w (or32 ⟨h1, h2⟩)
        have HE := Aside0.mk h3
        clear h3
        have hm : ¬ (IntKind.u64.wrap (IntKind.u64.wrap 18446744073709551616 - 1) < n * 16 + (c - 97 + 10)) := by
          rw [show IntKind.u64.wrap (IntKind.u64.wrap 18446744073709551616 - 1) = 18446744073709551615 by decide]
          omega
        go_wp2_with (go_at_call 104; refine (hl _).mono ?_; rintro e w' ⟨rfl, rfl⟩)
        go_roundg (gk - 1)
        case measure => exact HM.out.2
        case rel => exact ⟨k + 1, rfl, (by rw [HN1.out, HE.out] <;> (congr 1; omega)), (by first | rfl | (congr 1; omega) | (congr 1)), rfl, ⟨HM.out.1⟩⟩
      · have d1 : decide (48 ≤ c) = true := decide_eq_true (by omega)
        have d2 : decide (c ≤ 57) = false := decide_eq_false (by omega)
        have hl := fun w => lower_walk c (c + 32) w (or32' ⟨h1, h2⟩)
        have HE := Aside0.mk h3
        clear h3
        have hm : ¬ (IntKind.u64.wrap (IntKind.u64.wrap 18446744073709551616 - 1) < n * 16 + (c + 32 - 97 + 10)) := by
          rw [show IntKind.u64.wrap (IntKind.u64.wrap 18446744073709551616 - 1) = 18446744073709551615 by decide]
          omega
        go_wp2_with (go_at_call 104; refine (hl _).mono ?_; rintro e w' ⟨rfl, rfl⟩)
        go_roundg (gk - 1)
        case measure => exact HM.out.2
        case rel => exact ⟨k + 1, rfl, (by rw [HN1.out, HE.out] <;> (congr 1; omega)), (by first | rfl | (congr 1; omega) | (congr 1)), rfl, ⟨HM.out.1⟩⟩
    · have hk4 : k = 4 := by have := HQ.out; omega
      subst hk4
      have hkk : ¬ (((4 : Nat) : Int) < (s.size : Int)) := by have := HS.out; omega
      have hkk2 : ¬ ((4 : Int) < (s.size : Int)) := by have := HS.out; omega
      go_wp2
      go_ret2
      exact ⟨rfl, by rw [HBS.out]; exact HB.out⟩
set_option maxRecDepth 100000 in
set_option maxHeartbeats 8000000 in
theorem uint_walk (s : ByteArray) (w : World) (hs : s.size = 4) (hh : ∀ k : Nat, k < 4 → hx (bt s k) = true) :
    Calls Tryz.prog 79 #[.string s, .int .i64 16, .int .i64 64] w fun e w' => e = .returned (.tuple #[.int .u64 (hexP s 4), .nilIface]) ∧ Below w.heap.size w w' := by
  have HC := Aside0.mk (uint_inner s w hs hh)
  clear hs hh
  go_enter Tryz.func79, Tryz.ntmps79
  go_wp2_with fail
  refine HC.out.mono ?_
  rintro e w1 ⟨rfl, hb⟩
  have HB := Aside0.mk hb
  clear hb HC
  go_wp2_with fail
  go_ret2
  exact ⟨rfl, HB.out⟩
theorem hexP_hexV {s : ByteArray} : hexP s 4 = hexV s 0 := by
  simp only [hexP, hexV]
  simp
theorem hexP_ext {s u : ByteArray} (h : ∀ k : Nat, k < 4 → bt u k = bt s k) : hexP u 4 = hexP s 4 := by
  simp only [hexP]
  rw [h 0 (by omega), h 1 (by omega), h 2 (by omega), h 3 (by omega)]
theorem hexV_bd {s : ByteArray} {i : Int} (h : hex4 s i = true) : 0 ≤ hexV s i ∧ hexV s i ≤ 65535 := hexV_range h
set_option maxRecDepth 100000 in
set_option maxHeartbeats 8000000 in
theorem runeit_walk (s : ByteArray) (w : World) (h4 : hex4 s 0 = true) :
    Calls Tryz.prog 63 #[.string s] w fun e w' => e = .returned (.int .i32 (hexV s 0)) ∧ Below w.heap.size w w' := by
  have hlt := hex4_lt h4
  have hb := hexV_bd h4
  have hz : (s.extract 0 4).size = 4 := by rw [ByteArray.size_extract]; omega
  have hbt : ∀ k : Nat, k < 4 → bt (s.extract 0 4) k = bt s k := fun k hk => by
    rw [Bt.bt_extract (by omega) (by omega), Nat.zero_add]
  have hh : ∀ k : Nat, k < 4 → hx (bt (s.extract 0 4) k) = true := fun k hk => by
    rw [hbt k hk]
    simp only [hex4, Bool.and_eq_true] at h4
    have e : k = 0 ∨ k = 1 ∨ k = 2 ∨ k = 3 := by omega
    rcases e with rfl | rfl | rfl | rfl
    · exact h4.1.1.1
    · exact h4.1.1.2
    · exact h4.1.2
    · exact h4.2
  have HC := Aside0.mk (uint_walk (s.extract 0 4) w hz hh)
  rw [hexP_ext hbt, hexP_hexV] at HC
  obtain ⟨n, hn⟩ : ∃ n, hexV s 0 = n := ⟨_, rfl⟩
  rw [hn] at HC hb ⊢
  have hw : IntKind.i32.wrap n = n := by simp [IntKind.wrap, IntKind.signed, IntKind.bits]; omega
  have p4 : (4 : Int) ≤ (s.size : Int) := by omega
  have p4' : 4 ≤ s.size := by omega
  clear hz hbt hh hlt hn h4
  go_enter Tryz.func63, Tryz.ntmps63
  go_wp2_with fail
  refine HC.out.mono ?_
  rintro e w1 ⟨rfl, hb1⟩
  have HB := Aside0.mk hb1
  clear hb1 HC
  go_wp2_with fail
  go_ret
  exact ⟨rfl, HB.out⟩
end Go.Proofs.YtldfejbmdonaoaaGreatDoor.Ru