/- gjson.stringLessInsensitive orders texts as their small letters are ordered (plain Lean over the printed function). Condition: shorter than 2^47 bytes. -/
import Derived.Test.YteehmhakcdaljaaBt
import Derived.Test.YteehmhakcdaljaaPFnExactLessLowerx1
namespace Go.Proofs.Yteehmhakcdaljaa.Less
open Go.RowKit Go.Proofs.YteehmhakcdaljaaW.PrintWords Go.Proofs.YteehmhakcdaljaaW.PrintLast Go.Proofs.YteehmhakcdaljaaW.PrintMore Go.Proofs.Yteehmhakcdaljaa.Bt Go.Proofs.Yteehmhakcdaljaa.PFnExactLessLower

/-- A small letter for a capital one. -/
def lowc (c : Int) : Int := if 65 ≤ c then (if c ≤ 90 then c + 32 else c) else c
theorem lowc_range {c : Int} (h : 0 ≤ c ∧ c ≤ 255) : 0 ≤ lowc c ∧ lowc c ≤ 255 := by
  unfold lowc
  split
  · split <;> omega
  · exact h
/-- The bytes of the text in small letters. -/
def lowL (s : ByteArray) : List Int := (List.range s.size).map fun j : Nat => lowc (bt s (j : Int))
theorem lowL_length (s : ByteArray) : (lowL s).length = s.size := by simp [lowL]
/-- The text in small letters. -/
def lower (s : ByteArray) : ByteArray := strOfNums (lowL s)

theorem round (k : Nat) (a b : ByteArray) (i : Nat) (ha : i < a.size) (hb : i < b.size) (hs : a.size ≤ 140737488351232) :
    gjson_stringLessInsensitive.l0 (k + 4) a b (i : Int) = if lowc (bt a i) < lowc (bt b i) then some true else if lowc (bt b i) < lowc (bt a i) then some false else gjson_stringLessInsensitive.l0 k a b ((i + 1 : Nat) : Int) := by
  have e : wrap64 ((i : Int) + 1) = ((i + 1 : Nat) : Int) := by unfold wrap64; omega
  have h0 : (0 : Int) ≤ (i : Int) := by omega
  have h1 : (i : Int) < (a.size : Int) := by omega
  have h2 : (i : Int) < (b.size : Int) := by omega
  have ra := bt_range a i
  have rb := bt_range b i
  simp only [gjson_stringLessInsensitive.l0, gjson_stringLessInsensitive.j1, gjson_stringLessInsensitive.j2, gjson_stringLessInsensitive.j3, gjson_stringLessInsensitive.j4, if_pos h0, if_pos h1, if_pos h2, decide_eq_true h2, if_true, e]
  generalize bt a i = x at *
  generalize bt b i = y at *
  unfold lowc
  by_cases x1 : 65 ≤ x <;> by_cases x2 : x ≤ 90 <;> by_cases y1 : 65 ≤ y <;> by_cases y2 : y ≤ 90
  all_goals simp only [ge_iff_le, gt_iff_lt, x1, x2, y1, y2, if_true, if_false, decide_true, decide_false, Bool.false_eq_true]
  all_goals (try rw [Int.emod_eq_of_lt (by omega) (by omega)])
  all_goals (try (congr 1 <;> first | rfl | (apply propext; omega)))
  all_goals (try simp only [Int.add_lt_add_iff_right])

theorem u8_lt {x y : Int} (hx : 0 ≤ x ∧ x ≤ 255) (hy : 0 ≤ y ∧ y ≤ 255) : (UInt8.ofNat x.toNat < UInt8.ofNat y.toNat) ↔ x < y := by
  rw [UInt8.lt_iff_toNat_lt, UInt8.toNat_ofNat', UInt8.toNat_ofNat']
  omega
theorem u8_eq {x y : Int} (hx : 0 ≤ x ∧ x ≤ 255) (hy : 0 ≤ y ∧ y ≤ 255) : (UInt8.ofNat x.toNat == UInt8.ofNat y.toNat) = decide (x = y) := by
  by_cases h : x = y
  · subst h; simp
  · have : ¬ UInt8.ofNat x.toNat = UInt8.ofNat y.toNat := fun e => by
      have := congrArg UInt8.toNat e
      rw [UInt8.toNat_ofNat', UInt8.toNat_ofNat'] at this
      omega
    simp [h, this]
/-- The bytes as the walk compares them. -/
def lowU (s : ByteArray) : List UInt8 := (lowL s).map fun n => UInt8.ofNat n.toNat
theorem lowU_drop {s : ByteArray} {i : Nat} (h : i < s.size) : (lowU s).drop i = UInt8.ofNat (lowc (bt s i)).toNat :: (lowU s).drop (i + 1) := by
  rw [List.drop_eq_getElem_cons (by simp [lowU, lowL, h])]
  simp [lowU, lowL]
theorem lowU_end {s : ByteArray} {i : Nat} (h : s.size ≤ i) : (lowU s).drop i = [] := List.drop_eq_nil_of_le (by simp [lowU, lowL, h])

theorem less_at (a b : ByteArray) (hs : a.size ≤ 140737488351232) (d : Nat) : ∀ (i : Nat), min a.size b.size - i = d → i ≤ min a.size b.size →
    gjson_stringLessInsensitive.l0 (4 * d + 2) a b (i : Int) = some (Op.bytesLess ((lowU a).drop i) ((lowU b).drop i)) := by
  induction d with
  | zero =>
    intro i hd hi
    have h : ¬ (i < a.size ∧ i < b.size) := fun h => by
      have := Nat.min_def (n := a.size) (m := b.size)
      split at this <;> omega
    simp only [gjson_stringLessInsensitive.l0, gjson_stringLessInsensitive.j1]
    by_cases h1 : i < a.size
    · have h2 : ¬ (i : Int) < (b.size : Int) := fun h2 => h ⟨h1, by omega⟩
      rw [if_pos (by omega), decide_eq_false h2, if_neg (by simp), lowU_end (s := b) (by omega)]
      have : ¬ (a.size : Int) < (b.size : Int) := by omega
      rw [decide_eq_false this]
      cases (lowU a).drop i <;> rfl
    · rw [if_neg (by omega), if_neg (by simp), lowU_end (s := a) (by omega)]
      have hia : i = a.size := by
        have := Nat.min_def (n := a.size) (m := b.size)
        split at this <;> omega
      by_cases h2 : i < b.size
      · rw [lowU_drop h2, decide_eq_true (by omega)]
        rfl
      · rw [lowU_end (s := b) (by omega), decide_eq_false (by omega)]
        rfl
  | succ d ih =>
    intro i hd hi
    have hm := Nat.min_def (n := a.size) (m := b.size)
    have ha : i < a.size := by split at hm <;> omega
    have hb : i < b.size := by split at hm <;> omega
    have ra := lowc_range (bt_range a i)
    have rb := lowc_range (bt_range b i)
    rw [show 4 * (d + 1) + 2 = 4 * d + 2 + 4 from by omega, round _ a b i ha hb hs, lowU_drop ha, lowU_drop hb]
    simp only [Op.bytesLess]
    rw [u8_eq ra rb]
    by_cases h1 : lowc (bt a i) < lowc (bt b i)
    · rw [if_pos h1, decide_eq_true ((u8_lt ra rb).mpr h1)]
      rfl
    · rw [if_neg h1, decide_eq_false (fun e => h1 ((u8_lt ra rb).mp e))]
      by_cases h2 : lowc (bt b i) < lowc (bt a i)
      · rw [if_pos h2, decide_eq_false (show ¬ lowc (bt a i) = lowc (bt b i) by omega)]
        rfl
      · rw [if_neg h2, decide_eq_true (show lowc (bt a i) = lowc (bt b i) by omega), ih (i + 1) (by omega) (by split at hm <;> omega)]
        simp
theorem less_any (a b : ByteArray) (hs : a.size ≤ 140737488351232) : ∃ k, gjson_stringLessInsensitive.f k a b = some (Op.bytesLess (lowU a) (lowU b)) := by
  refine ⟨4 * min a.size b.size + 2, ?_⟩
  have := less_at a b hs (min a.size b.size) 0 (by omega) (by omega)
  simpa [gjson_stringLessInsensitive.f] using this
theorem lower_toList (s : ByteArray) : (lower s).toList = lowU s := by
  rw [ByteArray.toList_eq]
  rfl
end Go.Proofs.Yteehmhakcdaljaa.Less
