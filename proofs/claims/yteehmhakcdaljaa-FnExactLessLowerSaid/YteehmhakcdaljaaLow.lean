/- spec.Lower writes the text in small letters; laws.FnExactLessLower returns true on every two strings. -/
import Derived.Test.YteehmhakcdaljaaLess
import Derived.Test.YteehmhakcdaljaaPFnExactLessLowerx2
namespace Go.Proofs.Yteehmhakcdaljaa.Low
open Go.RowKit Go.Proofs.YteehmhakcdaljaaW.PrintWords Go.Proofs.YteehmhakcdaljaaW.PrintLast Go.Proofs.YteehmhakcdaljaaW.PrintMore Go.Proofs.Yteehmhakcdaljaa.Bt Go.Proofs.Yteehmhakcdaljaa.Less Go.Proofs.Yteehmhakcdaljaa.PFnExactLessLower
set_option linter.unusedVariables false
set_option linter.unusedSimpArgs false

/-- The byte at j when k of them have been made small. -/
def low (s : ByteArray) (k j : Nat) : Int := if j < k then lowc (bt s (j : Int)) else bt s (j : Int)
/-- The row in the round. -/
structure InRow (s : ByteArray) (B k : Nat) (w wr : World) : Prop where
  le : k ≤ s.size
  cell : ∀ j : Nat, j < s.size → wr.cell? ⟨B, j, none⟩ = some (.int .u8 (low s k j))
  free : ∀ j : Nat, j < s.size → wr.frozen? ⟨B, j, none⟩ = false
  below : Below B w wr
theorem InRow.start (s : ByteArray) (w : World) (hs : s.size ≤ 9223372036854775807) : InRow s w.heap.size 0 w (Lib.bytesWorld w 5 s) := by
  refine ⟨Nat.zero_le _, fun j hj => ?_, fun j hj => ?_, bytes_below (Below.refl _ _) (Nat.le_refl _) _ _⟩
  · obtain ⟨ad, e, h⟩ := (bytes_reads w 5 s hs).2.2 (by omega)
    injection e with e
    subst e
    have := h j hj
    rw [add_plain] at this
    rw [this]
    have hr := rd_bytesOf s (j : Int)
    unfold rd at hr
    rw [Int.toNat_natCast] at hr
    rw [hr]
    simp [low]
  · have hz : s.size ≤ (Lib.bytesCells w 5 s).size := by simp [Lib.bytesCells]
    simp only [World.frozen?, Lib.bytesWorld_at_new]
    simp
    omega
theorem InRow.step_up {s : ByteArray} {B k : Nat} {w wr : World} (h : InRow s B k w wr) (hk : k < s.size) (h1 : 65 ≤ bt s k) (h2 : bt s k ≤ 90) : InRow s B (k + 1) w (wr.setCell ⟨B, k, none⟩ (.int .u8 (bt s k + 32))) := by
  refine ⟨hk, fun j hj => ?_, fun j hj => by rw [World.frozen?_setCell]; exact h.free j hj, h.below.setCell (Nat.le_refl _) _⟩
  by_cases e : k = j
  · subst e
    rw [World.cell?_setCell_same (h := h.cell k hk)]
    unfold low
    rw [if_pos (by omega)]
    unfold lowc
    rw [if_pos h1, if_pos h2]
  · rw [World.cell?_setCell_other (h := by intro e'; injection e' with _ e' _; exact e e'), h.cell j hj]
    unfold low
    by_cases hj' : j < k
    · rw [if_pos hj', if_pos (by omega)]
    · rw [if_neg hj', if_neg (by omega)]
theorem InRow.step_same {s : ByteArray} {B k : Nat} {w wr : World} (h : InRow s B k w wr) (hk : k < s.size) (hn : bt s k < 65 ∨ 90 < bt s k) : InRow s B (k + 1) w wr := by
  refine ⟨hk, fun j hj => ?_, h.free, h.below⟩
  rw [h.cell j hj]
  unfold low
  rcases Nat.lt_trichotomy j k with h' | h' | h'
  · rw [if_pos h', if_pos (by omega)]
  · subst h'
    rw [if_neg (by omega), if_pos (by omega)]
    unfold lowc
    split
    · rw [if_neg (by omega)]
    · rfl
  · rw [if_neg (by omega), if_neg (by omega)]

theorem lower_any (s : ByteArray) (w : World) (hs : s.size ≤ 140737488351232) : Calls Try.prog 10 #[.string s] w (fun e w' => e = .returned (.string (lower s)) ∧ Below w.heap.size w w') := by
  have HS := Aside0.mk hs
  have HR := Aside0.mk (InRow.start s w (by omega))
  have kb := fun W => print_bytes (P := Try.prog) 9 38 5 Try.underlying9 Try.underlying38 Try.underlying5 s W
  clear hs
  go_enter Try.func10, Try.ntmps10
  go_wp2
  obtain ⟨c, hc⟩ : ∃ c, grownCap w s.size 0 5 = c := ⟨_, rfl⟩
  obtain ⟨B, hB⟩ : ∃ B, w.heap.size = B := ⟨_, rfl⟩
  have hcs : s.size ≤ c := by rw [← hc]; exact grownCap_ge _ _ _ _
  rw [hc, hB]
  rw [hB] at HR
  obtain ⟨W0, hW0⟩ : ∃ W0, Lib.bytesWorld w 5 s = W0 := ⟨_, rfl⟩
  rw [hW0] at HR ⊢
  clear kb hW0 hc
  go_loopg [10] s.size (fun kq x10 wr => ∃ (i : Int) (k : Nat), x10 = .int .i64 i ∧ Aside0 (i = k) ∧ Aside0 (k + kq = s.size) ∧ Aside0 (InRow s B k w wr))
  case atStart => exact ⟨0, 0, rfl, ⟨rfl⟩, ⟨by omega⟩, HR⟩
  case round =>
    clear HR
    obtain ⟨i, k, rfl, HI, HK, HA⟩ := hrel
    have p1 : (0 : Int) ≤ i := by have := HI.out; omega
    have p4 : i ≤ 140737488351232 := by have := HI.out; have := HS.out; have := HA.out.le; omega
    by_cases hlt : i < (s.size : Int)
    · have c1 : decide (i < (s.size : Int)) = true := decide_eq_true hlt
      have HL : Aside0 (k < s.size) := ⟨by have := HI.out; omega⟩
      have ek : i.toNat = k := by have := HI.out; omega
      have HE : Aside0 (bt s i = bt s k) := ⟨by rw [HI.out]⟩
      have hx : wr.cell? ⟨B, i.toNat, none⟩ = some (.int .u8 (bt s i)) := by
        rw [ek, HA.out.cell k HL.out, HE.out]
        simp [low]
      have hf : wr.frozen? ⟨B, i.toNat, none⟩ = false := by rw [ek]; exact HA.out.free k HL.out
      have hr := bt_range s i
      have HEK := Aside0.mk ek
      clear ek
      by_cases c3 : bt s i < 65
      · have d3 : decide (65 ≤ bt s i) = false := decide_eq_false (by omega)
        have HC := Aside0.mk (HA.out.step_same HL.out (.inl (by rw [← HE.out]; exact c3)))
        go_wp2
        go_roundg (s.size - (k + 1))
        case measure => have := HK.out; have := HL.out; omega
        case rel => exact ⟨_, k + 1, rfl, ⟨by have := HI.out; omega⟩, ⟨by have := HL.out; omega⟩, HC⟩
      · have d3 : decide (65 ≤ bt s i) = true := decide_eq_true (by omega)
        by_cases c4 : 90 < bt s i
        · have d4 : decide (bt s i ≤ 90) = false := decide_eq_false (by omega)
          have HC := Aside0.mk (HA.out.step_same HL.out (.inr (by rw [← HE.out]; exact c4)))
          go_wp2
          go_roundg (s.size - (k + 1))
          case measure => have := HK.out; have := HL.out; omega
          case rel => exact ⟨_, k + 1, rfl, ⟨by have := HI.out; omega⟩, ⟨by have := HL.out; omega⟩, HC⟩
        · have d4 : decide (bt s i ≤ 90) = true := decide_eq_true (by omega)
          have HC : Aside0 (InRow s B (k + 1) w (wr.setCell ⟨B, i.toNat, none⟩ (.int .u8 (bt s i + 32)))) := ⟨by
            rw [HEK.out, HE.out]
            exact HA.out.step_up HL.out (by rw [← HE.out]; omega) (by rw [← HE.out]; omega)⟩
          go_wp2
          go_roundg (s.size - (k + 1))
          case measure => have := HK.out; have := HL.out; omega
          case rel => exact ⟨_, k + 1, rfl, ⟨by have := HI.out; omega⟩, ⟨by have := HL.out; omega⟩, HC⟩
    · have ek : k = s.size := by have := HA.out.le; have := HI.out; omega
      have c1 : decide (i < (s.size : Int)) = false := decide_eq_false hlt
      have hcv := run_convert_bytes_arg (P := Try.prog) wr 38 5 Try.underlying38 Try.underlying5 B 0 s.size c (lowL s) (lowL_length s) (fun j hj => by
        rw [Nat.zero_add, HA.out.cell j hj, ek]
        simp [low, lowL, hj]) 9 Try.underlying9
      have HBB : Aside0 (Below w.heap.size w wr) := ⟨by rw [hB]; exact HA.out.below⟩
      clear hlt ek
      go_wp2
      go_ret
      exact ⟨rfl, HBB.out⟩

theorem lawWalk (a b : ByteArray) (w : World) (ha : a.size ≤ 140737488351232) (hb : b.size ≤ 140737488351232) : Calls Try.prog 4 #[.string a, .string b] w (fun e w' => e = .returned (.bool true) ∧ Below w.heap.size w w') := by
  obtain ⟨k, hk⟩ := less_any a b ha
  have hk' : impl_LessInsensitive.f k a b = some (Op.bytesLess (lowU a) (lowU b)) := by
    unfold impl_LessInsensitive.f gjson_ZZLessInsensitive.f
    rw [hk]
    rfl
  have HA := Aside0.mk ha
  have HB := Aside0.mk hb
  have HK := Aside0.mk hk'
  have HT := Aside0.mk (And.intro (lower_toList a) (lower_toList b))
  clear ha hb hk hk'
  by_cases h1 : (65536 : Int) < (a.size : Int) ∨ (65536 : Int) < (b.size : Int)
  · by_cases h2 : (2147483647 : Int) < (a.size : Int)
    · clear h1
      go_enter Try.func4, Try.ntmps4
      go_wp2
      go_ret
      exact ⟨rfl, Below.refl _ _⟩
    by_cases h3 : (2147483647 : Int) < (b.size : Int)
    · clear h1
      go_enter Try.func4, Try.ntmps4
      go_wp2
      go_ret
      exact ⟨rfl, Below.refl _ _⟩
    by_cases h4 : (65536 : Int) < (a.size : Int)
    · clear h1
      go_enter Try.func4, Try.ntmps4
      go_wp2
      go_ret
      exact ⟨rfl, Below.refl _ _⟩
    · have h5 : (65536 : Int) < (b.size : Int) := by omega
      clear h1
      go_enter Try.func4, Try.ntmps4
      go_wp2
      go_ret
      exact ⟨rfl, Below.refl _ _⟩
  have h2 : ¬ (65536 : Int) < (a.size : Int) := by omega
  have h3 : ¬ (65536 : Int) < (b.size : Int) := by omega
  have h4 : ¬ (2147483647 : Int) < (a.size : Int) := by omega
  have h5 : ¬ (2147483647 : Int) < (b.size : Int) := by omega
  clear h1
  go_enter Try.func4, Try.ntmps4
  go_wp2_with fail
  refine (impl_LessInsensitive.calls k _ _ _ _ HK.out).mono ?_
  rintro e w' ⟨rfl, ⟨m1, rfl⟩⟩
  go_wp2_with fail
  refine (lower_any a _ HA.out).mono ?_
  rintro e w1 ⟨rfl, hb1⟩
  have HB1 := Aside0.mk hb1
  clear hb1
  go_wp2_with fail
  refine (lower_any b _ HB.out).mono ?_
  rintro e w2 ⟨rfl, hb2⟩
  have HB2 := Aside0.mk hb2
  clear hb2
  go_wp2
  go_ret
  refine ⟨by rw [HT.out.1, HT.out.2]; simp, ?_⟩
  exact below_then (pw_below_drewN (Below.refl _ _) _ |>.trans HB1.out) HB1.out.size HB2.out
end Go.Proofs.Yteehmhakcdaljaa.Low
