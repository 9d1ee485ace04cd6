/- Joined by a program of mine from texts of this claim: Ru. -/
import Derived.Test.YtldfejbmdonaoaaDoorV15
import Derived.Test.YtldfejbmdonaoaaDoorV3
import Derived.Test.YtldfejbmdonaoaaDoorV16
import Derived.Deep.QuietTactic
import Derived.BigQuiet
namespace Go.Proofs.YtldfejbmdonaoaaDoor.Ru
open Go.RowKit YtldfejbmdonaoaaDoorW.PrintWords YtldfejbmdonaoaaDoorW.PrintLast YtldfejbmdonaoaaDoorW.PrintMore Te
set_option linter.unusedVariables false
set_option linter.unusedSimpArgs false
def hexP (s : ByteArray) : Nat → Int
  | 0 => 0
  | k + 1 => hexP s k * 16 + hv (bt s k)
theorem hexP_bd {s : ByteArray} (h : ∀ k : Nat, k < 4 → hx (bt s k) = true) : ∀ k : Nat, k ≤ 4 → 0 ≤ hexP s k ∧ hexP s k < 65536 ∧ (k < 4 → hexP s k < 4096) := by
  intro k hk
  have r0 := hv_range (h 0 (by omega))
  have r1 := hv_range (h 1 (by omega))
  have r2 := hv_range (h 2 (by omega))
  have r3 := hv_range (h 3 (by omega))
  have e : k = 0 ∨ k = 1 ∨ k = 2 ∨ k = 3 ∨ k = 4 := by omega
  rcases e with rfl | rfl | rfl | rfl | rfl <;> simp only [hexP] <;> omega
theorem or32 {c : Int} (h : 97 ≤ c ∧ c ≤ 102) : bits .or .u8 c 32 = c := by
  have e : c = 97 ∨ c = 98 ∨ c = 99 ∨ c = 100 ∨ c = 101 ∨ c = 102 := by omega
  rcases e with rfl | rfl | rfl | rfl | rfl | rfl <;> decide
theorem or32' {c : Int} (h : 65 ≤ c ∧ c ≤ 70) : bits .or .u8 c 32 = c + 32 := by
  have e : c = 65 ∨ c = 66 ∨ c = 67 ∨ c = 68 ∨ c = 69 ∨ c = 70 := by omega
  rcases e with rfl | rfl | rfl | rfl | rfl | rfl <;> decide
theorem lower_walk (c d : Int) (w : World) (h : bits .or .u8 c 32 = d) : Calls Tryd.prog 84 #[.int .u8 c] w fun e w' => e = .returned (.int .u8 d) ∧ w = w' := by
  go_enter Tryd.func84, Tryd.ntmps84
  go_wp2
  go_ret
  exact ⟨rfl, rfl⟩
set_option maxRecDepth 100000 in
set_option maxHeartbeats 8000000 in
theorem uint_inner (s : ByteArray) (w : World) (hs : s.size = 4) (hh : ∀ k : Nat, k < 4 → hx (bt s k) = true) :
    Calls Tryd.prog 69 #[.string s, .int .i64 16, .int .i64 64] w fun e w' => e = .returned (.tuple #[.int .u64 (hexP s 4), .nilIface]) ∧ Below w.heap.size w w' := by
  have HH := Aside0.mk hh
  have HP := Aside0.mk (hexP_bd hh)
  have kb := fun W => print_bytes (P := Tryd.prog) 9 54 5 Tryd.underlying9 Tryd.underlying54 Tryd.underlying5 s W
  have HR : Aside0 (Kd.C (Kd.int .u8) (Lib.bytesWorld w 5 s) (some ⟨w.heap.size, 0, none⟩) s.size (bytesOf s)) := ⟨Kd.C_of_reads (enc := Value.int .u8) (d := (0 : Int)) (h1 := fun _ => rfl) (bytes_reads w 5 s (by omega))⟩
  have HB := Aside0.mk (bytes_below (Below.refl _ w) (Nat.le_refl _) 5 s)
  have HS := Aside0.mk hs
  have hne : s.toList.isEmpty = false := by
    rw [Lib.toList_data]
    cases h : s.data.toList with
    | nil =>
      have : s.data.toList.length = 4 := by rw [Array.length_toList]; exact hs
      rw [h] at this
      exact absurd this (by decide)
    | cons _ _ => rfl
  have hne2 : ¬ s.toList = [] := by intro e; rw [e] at hne; exact absurd hne (by decide)
  clear hh hs
  go_enter Tryd.func69, Tryd.ntmps69
  go_wp2
  obtain ⟨B, hB⟩ : ∃ B, w.heap.size = B := ⟨_, rfl⟩
  obtain ⟨W1, hW1⟩ : ∃ W1, Lib.bytesWorld w 5 s = W1 := ⟨_, rfl⟩
  have HBS := Aside0.mk hB
  rw [hW1] at HR HB ⊢
  rw [hB] at HR HB ⊢
  clear hB hW1 kb hne hne2
  have HD : Aside0 (∀ k : Nat, k < 4 → W1.cell? ⟨B, k, none⟩ = some (.int .u8 (bt s k))) := ⟨fun k hk => by
    obtain ⟨ad, e, hx⟩ := Kd.at_int HR.out k (by omega) (by have := HS.out; omega)
    rw [rd_bytesOf] at hx
    obtain rfl : (⟨B, 0, none⟩ : Addr) = ad := by injection e
    rw [add_plain, Int.toNat_natCast] at hx
    exact hx⟩
  clear HR
  go_loopg [12, 13, 101] 4 (fun kq x12 x13 x101 wr => ∃ k : Nat, x12 = .bool false ∧ x13 = .int .u64 (hexP s k) ∧ x101 = .int .i64 (k : Int) ∧ wr = W1 ∧ Aside0 (k + kq = 4))
  case atStart => exact ⟨0, rfl, rfl, rfl, rfl, ⟨rfl⟩⟩
  case round =>
    obtain ⟨k, rfl, rfl, rfl, rfl, HQ⟩ := hrel
    by_cases hk : k < 4
    · have hkk : (k : Int) < (s.size : Int) := by have := HS.out; omega
      have k0 : (0 : Int) ≤ (k : Int) := by omega
      have hcell := HD.out k hk
      have hbd := HP.out k (by omega)
      have hP1 : hexP s (k + 1) = hexP s k * 16 + hv (bt s k) := rfl
      have hh := HH.out k hk
      have hr := hv_range hh
      have HM : Aside0 (k + 1 + (gk - 1) = 4 ∧ gk - 1 < gk) := ⟨by have := HQ.out; omega⟩
      obtain ⟨n, hn⟩ : ∃ n, hexP s k = n := ⟨_, rfl⟩
      obtain ⟨n1, hn1⟩ : ∃ n1, hexP s (k + 1) = n1 := ⟨_, rfl⟩
      obtain ⟨c, hc⟩ : ∃ c, bt s k = c := ⟨_, rfl⟩
      rw [hn] at hbd hP1 ⊢
      rw [hn1] at hP1
      rw [hc] at hcell hP1 hh hr
      have HN1 := Aside0.mk hn1
      have n0 : 0 ≤ n := hbd.1
      have n2 : n < 4096 := hbd.2.2 hk
      have hcase : (48 ≤ c ∧ c ≤ 57 ∧ n1 = n * 16 + (c - 48)) ∨ (97 ≤ c ∧ c ≤ 102 ∧ n1 = n * 16 + (c - 87)) ∨ (65 ≤ c ∧ c ≤ 70 ∧ n1 = n * 16 + (c - 55)) := by
        simp only [hx, Bool.or_eq_true, Bool.and_eq_true, decide_eq_true_eq] at hh
        unfold hv at hP1
        rcases hh with (⟨h1, h2⟩ | ⟨h1, h2⟩) | ⟨h1, h2⟩
        · rw [if_pos h2] at hP1; exact .inl ⟨h1, h2, hP1⟩
        · rw [if_neg (by omega), if_pos h1] at hP1; exact .inr (.inl ⟨h1, h2, hP1⟩)
        · rw [if_neg (by omega), if_neg (by omega)] at hP1; exact .inr (.inr ⟨h1, h2, hP1⟩)
      have w1 : IntKind.i64.wrap ((k : Int) + 1) = ((k + 1 : Nat) : Int) := by simp [IntKind.wrap, IntKind.signed, IntKind.bits]; omega
      clear hbd hP1 hh hr hn hn1 hc hk HD
      rcases hcase with ⟨h1, h2, h3⟩ | ⟨h1, h2, h3⟩ | ⟨h1, h2, h3⟩
      · have d1 : decide (48 ≤ c) = true := decide_eq_true h1
        have d2 : decide (c ≤ 57) = true := decide_eq_true h2
        have HE := Aside0.mk h3
        clear h3
        have hm : ¬ (IntKind.u64.wrap (IntKind.u64.wrap 18446744073709551616 - 1) < n * 16 + (c - 48)) := by
          rw [show IntKind.u64.wrap (IntKind.u64.wrap 18446744073709551616 - 1) = 18446744073709551615 by decide]
          omega
        go_wp2
        go_roundg (gk - 1)
        case measure => exact HM.out.2
        case rel => exact ⟨k + 1, rfl, (by rw [HN1.out, HE.out] <;> (congr 1; omega)), (by first | rfl | (congr 1; omega) | (congr 1)), rfl, ⟨HM.out.1⟩⟩
      · have d1 : decide (48 ≤ c) = true := decide_eq_true (by omega)
        have d2 : decide (c ≤ 57) = false := decide_eq_false (by omega)
        have hl := fun w => lower_walk c c w (or32 ⟨h1, h2⟩)
        have HE := Aside0.mk h3
        clear h3
        have hm : ¬ (IntKind.u64.wrap (IntKind.u64.wrap 18446744073709551616 - 1) < n * 16 + (c - 97 + 10)) := by
          rw [show IntKind.u64.wrap (IntKind.u64.wrap 18446744073709551616 - 1) = 18446744073709551615 by decide]
          omega
        go_wp2_with (go_at_call 84; refine (hl _).mono ?_; rintro e w' ⟨rfl, rfl⟩)
        go_roundg (gk - 1)
        case measure => exact HM.out.2
        case rel => exact ⟨k + 1, rfl, (by rw [HN1.out, HE.out] <;> (congr 1; omega)), (by first | rfl | (congr 1; omega) | (congr 1)), rfl, ⟨HM.out.1⟩⟩
      · have d1 : decide (48 ≤ c) = true := decide_eq_true (by omega)
        have d2 : decide (c ≤ 57) = false := decide_eq_false (by omega)
        have hl := fun w => lower_walk c (c + 32) w (or32' ⟨h1, h2⟩)
        have HE := Aside0.mk h3
        clear h3
        have hm : ¬ (IntKind.u64.wrap (IntKind.u64.wrap 18446744073709551616 - 1) < n * 16 + (c + 32 - 97 + 10)) := by
          rw [show IntKind.u64.wrap (IntKind.u64.wrap 18446744073709551616 - 1) = 18446744073709551615 by decide]
          omega
        go_wp2_with (go_at_call 84; refine (hl _).mono ?_; rintro e w' ⟨rfl, rfl⟩)
        go_roundg (gk - 1)
        case measure => exact HM.out.2
        case rel => exact ⟨k + 1, rfl, (by rw [HN1.out, HE.out] <;> (congr 1; omega)), (by first | rfl | (congr 1; omega) | (congr 1)), rfl, ⟨HM.out.1⟩⟩
    · have hk4 : k = 4 := by have := HQ.out; omega
      subst hk4
      have hkk : ¬ (((4 : Nat) : Int) < (s.size : Int)) := by have := HS.out; omega
      have hkk2 : ¬ ((4 : Int) < (s.size : Int)) := by have := HS.out; omega
      go_wp2
      go_ret2
      exact ⟨rfl, by rw [HBS.out]; exact HB.out⟩
set_option maxRecDepth 100000 in
set_option maxHeartbeats 8000000 in
theorem uint_walk (s : ByteArray) (w : World) (hs : s.size = 4) (hh : ∀ k : Nat, k < 4 → hx (bt s k) = true) :
    Calls Tryd.prog 62 #[.string s, .int .i64 16, .int .i64 64] w fun e w' => e = .returned (.tuple #[.int .u64 (hexP s 4), .nilIface]) ∧ Below w.heap.size w w' := by
  have HC := Aside0.mk (uint_inner s w hs hh)
  clear hs hh
  go_enter Tryd.func62, Tryd.ntmps62
  go_wp2_with fail
  refine HC.out.mono ?_
  rintro e w1 ⟨rfl, hb⟩
  have HB := Aside0.mk hb
  clear hb HC
  go_wp2_with fail
  go_ret2
  exact ⟨rfl, HB.out⟩
theorem hexP_hexV {s : ByteArray} : hexP s 4 = hexV s 0 := by
  simp only [hexP, hexV]
  simp
theorem hexP_ext {s u : ByteArray} (h : ∀ k : Nat, k < 4 → bt u k = bt s k) : hexP u 4 = hexP s 4 := by
  simp only [hexP]
  rw [h 0 (by omega), h 1 (by omega), h 2 (by omega), h 3 (by omega)]
theorem hexV_bd {s : ByteArray} {i : Int} (h : hex4 s i = true) : 0 ≤ hexV s i ∧ hexV s i ≤ 65535 := hexV_range h
set_option maxRecDepth 100000 in
set_option maxHeartbeats 8000000 in
theorem runeit_walk (s : ByteArray) (w : World) (h4 : hex4 s 0 = true) :
    Calls Tryd.prog 53 #[.string s] w fun e w' => e = .returned (.int .i32 (hexV s 0)) ∧ Below w.heap.size w w' := by
  have hlt := hex4_lt h4
  have hb := hexV_bd h4
  have hz : (s.extract 0 4).size = 4 := by rw [ByteArray.size_extract]; omega
  have hbt : ∀ k : Nat, k < 4 → bt (s.extract 0 4) k = bt s k := fun k hk => by
    rw [Bt.bt_extract (by omega) (by omega), Nat.zero_add]
  have hh : ∀ k : Nat, k < 4 → hx (bt (s.extract 0 4) k) = true := fun k hk => by
    rw [hbt k hk]
    simp only [hex4, Bool.and_eq_true] at h4
    have e : k = 0 ∨ k = 1 ∨ k = 2 ∨ k = 3 := by omega
    rcases e with rfl | rfl | rfl | rfl
    · exact h4.1.1.1
    · exact h4.1.1.2
    · exact h4.1.2
    · exact h4.2
  have HC := Aside0.mk (uint_walk (s.extract 0 4) w hz hh)
  rw [hexP_ext hbt, hexP_hexV] at HC
  obtain ⟨n, hn⟩ : ∃ n, hexV s 0 = n := ⟨_, rfl⟩
  rw [hn] at HC hb ⊢
  have hw : IntKind.i32.wrap n = n := by simp [IntKind.wrap, IntKind.signed, IntKind.bits]; omega
  have p4 : (4 : Int) ≤ (s.size : Int) := by omega
  have p4' : 4 ≤ s.size := by omega
  clear hz hbt hh hlt hn h4
  go_enter Tryd.func53, Tryd.ntmps53
  go_wp2_with fail
  refine HC.out.mono ?_
  rintro e w1 ⟨rfl, hb1⟩
  have HB := Aside0.mk hb1
  clear hb1 HC
  go_wp2_with fail
  go_ret
  exact ⟨rfl, HB.out⟩
end Go.Proofs.YtldfejbmdonaoaaDoor.Ru