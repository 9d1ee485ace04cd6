/- Joined by a program of mine from texts of this claim: Less, Lw, Lx. -/
import Derived.Test.YtldfejbmdonaoaaGreatDoorL4
import Derived.Test.YtldfejbmdonaoaaGreatDoorL6
import Derived.Laws.FloatArith
namespace Go.Proofs.YtldfejbmdonaoaaGreatDoor.Less
open Go.RowKit YtldfejbmdonaoaaGreatDoorW.PrintWords YtldfejbmdonaoaaGreatDoorW.PrintLast YtldfejbmdonaoaaGreatDoorW.PrintMore Bt PFnExactLess
def lowc (c : Int) : Int := if 65 ≤ c then (if c ≤ 90 then c + 32 else c) else c
theorem lowc_range {c : Int} (h : 0 ≤ c ∧ c ≤ 255) : 0 ≤ lowc c ∧ lowc c ≤ 255 := by
  unfold lowc
  split
  · split <;> omega
  · exact h
def lowL (s : ByteArray) : List Int := (List.range s.size).map fun j : Nat => lowc (bt s (j : Int))
theorem lowL_length (s : ByteArray) : (lowL s).length = s.size := by simp [lowL]
def lower (s : ByteArray) : ByteArray := strOfNums (lowL s)
theorem round (k : Nat) (a b : ByteArray) (i : Nat) (ha : i < a.size) (hb : i < b.size) (hs : a.size ≤ 140737488351232) :
    gjson_stringLessInsensitive.l0 (k + 4) a b (i : Int) = if lowc (bt a i) < lowc (bt b i) then some true else if lowc (bt b i) < lowc (bt a i) then some false else gjson_stringLessInsensitive.l0 k a b ((i + 1 : Nat) : Int) := by
  have e : wrap64 ((i : Int) + 1) = ((i + 1 : Nat) : Int) := by unfold wrap64; omega
  have h0 : (0 : Int) ≤ (i : Int) := by omega
  have h1 : (i : Int) < (a.size : Int) := by omega
  have h2 : (i : Int) < (b.size : Int) := by omega
  have ra := bt_range a i
  have rb := bt_range b i
  simp only [gjson_stringLessInsensitive.l0, gjson_stringLessInsensitive.j1, gjson_stringLessInsensitive.j2, gjson_stringLessInsensitive.j3, gjson_stringLessInsensitive.j4, if_pos h0, if_pos h1, if_pos h2, decide_eq_true h2, if_true, e]
  generalize bt a i = x at *
  generalize bt b i = y at *
  unfold lowc
  by_cases x1 : 65 ≤ x <;> by_cases x2 : x ≤ 90 <;> by_cases y1 : 65 ≤ y <;> by_cases y2 : y ≤ 90
  all_goals simp only [ge_iff_le, gt_iff_lt, x1, x2, y1, y2, if_true, if_false, decide_true, decide_false, Bool.false_eq_true]
  all_goals (try rw [Int.emod_eq_of_lt (by omega) (by omega)])
  all_goals (try (congr 1 <;> first | rfl | (apply propext; omega)))
  all_goals (try simp only [Int.add_lt_add_iff_right])
theorem u8_lt {x y : Int} (hx : 0 ≤ x ∧ x ≤ 255) (hy : 0 ≤ y ∧ y ≤ 255) : (UInt8.ofNat x.toNat < UInt8.ofNat y.toNat) ↔ x < y := by
  rw [UInt8.lt_iff_toNat_lt, UInt8.toNat_ofNat', UInt8.toNat_ofNat']
  omega
theorem u8_eq {x y : Int} (hx : 0 ≤ x ∧ x ≤ 255) (hy : 0 ≤ y ∧ y ≤ 255) : (UInt8.ofNat x.toNat == UInt8.ofNat y.toNat) = decide (x = y) := by
  by_cases h : x = y
  · subst h; simp
  · have : ¬ UInt8.ofNat x.toNat = UInt8.ofNat y.toNat := fun e => by
      have := congrArg UInt8.toNat e
      rw [UInt8.toNat_ofNat', UInt8.toNat_ofNat'] at this
      omega
    simp [h, this]
def lowU (s : ByteArray) : List UInt8 := (lowL s).map fun n => UInt8.ofNat n.toNat
theorem lowU_drop {s : ByteArray} {i : Nat} (h : i < s.size) : (lowU s).drop i = UInt8.ofNat (lowc (bt s i)).toNat :: (lowU s).drop (i + 1) := by
  rw [List.drop_eq_getElem_cons (by simp [lowU, lowL, h])]
  simp [lowU, lowL]
theorem lowU_end {s : ByteArray} {i : Nat} (h : s.size ≤ i) : (lowU s).drop i = [] := List.drop_eq_nil_of_le (by simp [lowU, lowL, h])
theorem less_at (a b : ByteArray) (hs : a.size ≤ 140737488351232) (d : Nat) : ∀ (i : Nat), min a.size b.size - i = d → i ≤ min a.size b.size →
    gjson_stringLessInsensitive.l0 (4 * d + 2) a b (i : Int) = some (Op.bytesLess ((lowU a).drop i) ((lowU b).drop i)) := by
  induction d with
  | zero =>
    intro i hd hi
    have h : ¬ (i < a.size ∧ i < b.size) := fun h => by
      have := Nat.min_def (n := a.size) (m := b.size)
      split at this <;> omega
    simp only [gjson_stringLessInsensitive.l0, gjson_stringLessInsensitive.j1]
    by_cases h1 : i < a.size
    · have h2 : ¬ (i : Int) < (b.size : Int) := fun h2 => h ⟨h1, by omega⟩
      rw [if_pos (by omega), decide_eq_false h2, if_neg (by simp), lowU_end (s := b) (by omega)]
      have : ¬ (a.size : Int) < (b.size : Int) := by omega
      rw [decide_eq_false this]
      cases (lowU a).drop i <;> rfl
    · rw [if_neg (by omega), if_neg (by simp), lowU_end (s := a) (by omega)]
      have hia : i = a.size := by
        have := Nat.min_def (n := a.size) (m := b.size)
        split at this <;> omega
      by_cases h2 : i < b.size
      · rw [lowU_drop h2, decide_eq_true (by omega)]
        rfl
      · rw [lowU_end (s := b) (by omega), decide_eq_false (by omega)]
        rfl
  | succ d ih =>
    intro i hd hi
    have hm := Nat.min_def (n := a.size) (m := b.size)
    have ha : i < a.size := by split at hm <;> omega
    have hb : i < b.size := by split at hm <;> omega
    have ra := lowc_range (bt_range a i)
    have rb := lowc_range (bt_range b i)
    rw [show 4 * (d + 1) + 2 = 4 * d + 2 + 4 from by omega, round _ a b i ha hb hs, lowU_drop ha, lowU_drop hb]
    simp only [Op.bytesLess]
    rw [u8_eq ra rb]
    by_cases h1 : lowc (bt a i) < lowc (bt b i)
    · rw [if_pos h1, decide_eq_true ((u8_lt ra rb).mpr h1)]
      rfl
    · rw [if_neg h1, decide_eq_false (fun e => h1 ((u8_lt ra rb).mp e))]
      by_cases h2 : lowc (bt b i) < lowc (bt a i)
      · rw [if_pos h2, decide_eq_false (show ¬ lowc (bt a i) = lowc (bt b i) by omega)]
        rfl
      · rw [if_neg h2, decide_eq_true (show lowc (bt a i) = lowc (bt b i) by omega), ih (i + 1) (by omega) (by split at hm <;> omega)]
        simp
theorem less_any (a b : ByteArray) (hs : a.size ≤ 140737488351232) : ∃ k, gjson_stringLessInsensitive.f k a b = some (Op.bytesLess (lowU a) (lowU b)) := by
  refine ⟨4 * min a.size b.size + 2, ?_⟩
  have := less_at a b hs (min a.size b.size) 0 (by omega) (by omega)
  simpa [gjson_stringLessInsensitive.f] using this
theorem lower_toList (s : ByteArray) : (lower s).toList = lowU s := by
  rw [ByteArray.toList_eq]
  rfl
end Go.Proofs.YtldfejbmdonaoaaGreatDoor.Less
namespace Go.Proofs.YtldfejbmdonaoaaGreatDoor.Lw
open Go.RowKit YtldfejbmdonaoaaGreatDoorW.PrintWords YtldfejbmdonaoaaGreatDoorW.PrintLast YtldfejbmdonaoaaGreatDoorW.PrintMore Bt Less PFnExactLess
set_option linter.unusedVariables false
set_option linter.unusedSimpArgs false
def low (s : ByteArray) (k j : Nat) : Int := if j < k then lowc (bt s (j : Int)) else bt s (j : Int)
structure InRow (s : ByteArray) (B k : Nat) (w wr : World) : Prop where
  le : k ≤ s.size
  cell : ∀ j : Nat, j < s.size → wr.cell? ⟨B, j, none⟩ = some (.int .u8 (low s k j))
  free : ∀ j : Nat, j < s.size → wr.frozen? ⟨B, j, none⟩ = false
  below : Below B w wr
theorem InRow.start (s : ByteArray) (w : World) (hs : s.size ≤ 9223372036854775807) : InRow s w.heap.size 0 w (Lib.bytesWorld w 5 s) := by
  refine ⟨Nat.zero_le _, fun j hj => ?_, fun j hj => ?_, bytes_below (Below.refl _ _) (Nat.le_refl _) _ _⟩
  · obtain ⟨ad, e, h⟩ := (bytes_reads w 5 s hs).2.2 (by omega)
    injection e with e
    subst e
    have := h j hj
    rw [add_plain] at this
    rw [this]
    have hr := rd_bytesOf s (j : Int)
    unfold rd at hr
    rw [Int.toNat_natCast] at hr
    rw [hr]
    simp [low]
  · have hz : s.size ≤ (Lib.bytesCells w 5 s).size := by simp [Lib.bytesCells]
    simp only [World.frozen?, Lib.bytesWorld_at_new]
    simp
    omega
theorem InRow.step_up {s : ByteArray} {B k : Nat} {w wr : World} (h : InRow s B k w wr) (hk : k < s.size) (h1 : 65 ≤ bt s k) (h2 : bt s k ≤ 90) : InRow s B (k + 1) w (wr.setCell ⟨B, k, none⟩ (.int .u8 (bt s k + 32))) := by
  refine ⟨hk, fun j hj => ?_, fun j hj => by rw [World.frozen?_setCell]; exact h.free j hj, h.below.setCell (Nat.le_refl _) _⟩
  by_cases e : k = j
  · subst e
    rw [World.cell?_setCell_same (h := h.cell k hk)]
    unfold low
    rw [if_pos (by omega)]
    unfold lowc
    rw [if_pos h1, if_pos h2]
  · rw [World.cell?_setCell_other (h := by intro e'; injection e' with _ e' _; exact e e'), h.cell j hj]
    unfold low
    by_cases hj' : j < k
    · rw [if_pos hj', if_pos (by omega)]
    · rw [if_neg hj', if_neg (by omega)]
theorem InRow.step_same {s : ByteArray} {B k : Nat} {w wr : World} (h : InRow s B k w wr) (hk : k < s.size) (hn : bt s k < 65 ∨ 90 < bt s k) : InRow s B (k + 1) w wr := by
  refine ⟨hk, fun j hj => ?_, h.free, h.below⟩
  rw [h.cell j hj]
  unfold low
  rcases Nat.lt_trichotomy j k with h' | h' | h'
  · rw [if_pos h', if_pos (by omega)]
  · subst h'
    rw [if_neg (by omega), if_pos (by omega)]
    unfold lowc
    split
    · rw [if_neg (by omega)]
    · rfl
  · rw [if_neg (by omega), if_neg (by omega)]
theorem lower_any (s : ByteArray) (w : World) (hs : s.size ≤ 140737488351232) : Calls Tryz.prog 10 #[.string s] w (fun e w' => e = .returned (.string (lower s)) ∧ Below w.heap.size w w') := by
  have HS := Aside0.mk hs
  have HR := Aside0.mk (InRow.start s w (by omega))
  have kb := fun W => print_bytes (P := Tryz.prog) 9 53 5 Tryz.underlying9 Tryz.underlying53 Tryz.underlying5 s W
  clear hs
  go_enter Tryz.func10, Tryz.ntmps10
  go_wp2
  obtain ⟨c, hc⟩ : ∃ c, grownCap w s.size 0 5 = c := ⟨_, rfl⟩
  obtain ⟨B, hB⟩ : ∃ B, w.heap.size = B := ⟨_, rfl⟩
  have hcs : s.size ≤ c := by rw [← hc]; exact grownCap_ge _ _ _ _
  rw [hc, hB]
  rw [hB] at HR
  obtain ⟨W0, hW0⟩ : ∃ W0, Lib.bytesWorld w 5 s = W0 := ⟨_, rfl⟩
  rw [hW0] at HR ⊢
  clear kb hW0 hc
  go_loopg [10] s.size (fun kq x10 wr => ∃ (i : Int) (k : Nat), x10 = .int .i64 i ∧ Aside0 (i = k) ∧ Aside0 (k + kq = s.size) ∧ Aside0 (InRow s B k w wr))
  case atStart => exact ⟨0, 0, rfl, ⟨rfl⟩, ⟨by omega⟩, HR⟩
  case round =>
    clear HR
    obtain ⟨i, k, rfl, HI, HK, HA⟩ := hrel
    have p1 : (0 : Int) ≤ i := by have := HI.out; omega
    have p4 : i ≤ 140737488351232 := by have := HI.out; have := HS.out; have := HA.out.le; omega
    by_cases hlt : i < (s.size : Int)
    · have c1 : decide (i < (s.size : Int)) = true := decide_eq_true hlt
      have HL : Aside0 (k < s.size) := ⟨by have := HI.out; omega⟩
      have ek : i.toNat = k := by have := HI.out; omega
      have HE : Aside0 (bt s i = bt s k) := ⟨by rw [HI.out]⟩
      have hx : wr.cell? ⟨B, i.toNat, none⟩ = some (.int .u8 (bt s i)) := by
        rw [ek, HA.out.cell k HL.out, HE.out]
        simp [low]
      have hf : wr.frozen? ⟨B, i.toNat, none⟩ = false := by rw [ek]; exact HA.out.free k HL.out
      have hr := bt_range s i
      have HEK := Aside0.mk ek
      clear ek
      by_cases c3 : bt s i < 65
      · have d3 : decide (65 ≤ bt s i) = false := decide_eq_false (by omega)
        have HC := Aside0.mk (HA.out.step_same HL.out (.inl (by rw [← HE.out]; exact c3)))
        go_wp2
        go_roundg (s.size - (k + 1))
        case measure => have := HK.out; have := HL.out; omega
        case rel => exact ⟨_, k + 1, rfl, ⟨by have := HI.out; omega⟩, ⟨by have := HL.out; omega⟩, HC⟩
      · have d3 : decide (65 ≤ bt s i) = true := decide_eq_true (by omega)
        by_cases c4 : 90 < bt s i
        · have d4 : decide (bt s i ≤ 90) = false := decide_eq_false (by omega)
          have HC := Aside0.mk (HA.out.step_same HL.out (.inr (by rw [← HE.out]; exact c4)))
          go_wp2
          go_roundg (s.size - (k + 1))
          case measure => have := HK.out; have := HL.out; omega
          case rel => exact ⟨_, k + 1, rfl, ⟨by have := HI.out; omega⟩, ⟨by have := HL.out; omega⟩, HC⟩
        · have d4 : decide (bt s i ≤ 90) = true := decide_eq_true (by omega)
          have HC : Aside0 (InRow s B (k + 1) w (wr.setCell ⟨B, i.toNat, none⟩ (.int .u8 (bt s i + 32)))) := ⟨by
            rw [HEK.out, HE.out]
            exact HA.out.step_up HL.out (by rw [← HE.out]; omega) (by rw [← HE.out]; omega)⟩
          go_wp2
          go_roundg (s.size - (k + 1))
          case measure => have := HK.out; have := HL.out; omega
          case rel => exact ⟨_, k + 1, rfl, ⟨by have := HI.out; omega⟩, ⟨by have := HL.out; omega⟩, HC⟩
    · have ek : k = s.size := by have := HA.out.le; have := HI.out; omega
      have c1 : decide (i < (s.size : Int)) = false := decide_eq_false hlt
      have hcv := run_convert_bytes_arg (P := Tryz.prog) wr 53 5 Tryz.underlying53 Tryz.underlying5 B 0 s.size c (lowL s) (lowL_length s) (fun j hj => by
        rw [Nat.zero_add, HA.out.cell j hj, ek]
        simp [low, lowL, hj]) 9 Tryz.underlying9
      have HBB : Aside0 (Below w.heap.size w wr) := ⟨by rw [hB]; exact HA.out.below⟩
      clear hlt ek
      go_wp2
      go_ret
      exact ⟨rfl, HBB.out⟩
end Go.Proofs.YtldfejbmdonaoaaGreatDoor.Lw
namespace Go.Proofs.YtldfejbmdonaoaaGreatDoor.Lx
open Go.RowKit YtldfejbmdonaoaaGreatDoorW.PrintWords YtldfejbmdonaoaaGreatDoorW.PrintLast YtldfejbmdonaoaaGreatDoorW.PrintMore Less Lw PFnExactLess
set_option linter.unusedVariables false
set_option linter.unusedSimpArgs false
set_option maxRecDepth 100000 in
set_option maxHeartbeats 8000000 in
theorem less_kind (k1 k2 : Int) (hk : k1 ≠ k2) (a1 b1 a2 b2 : ByteArray) (c1 c2 : Nat) (d1 d2 : Int) (A1 A2 : Option Addr) (n1 m1 n2 m2 : Nat) (q : Bool) (w : World) :
    Calls Tryz.prog 25 #[.agg #[.int .i64 k1, .string a1, .string b1, .float .f64 c1, .int .i64 d1, .slice A1 n1 m1], .agg #[.int .i64 k2, .string a2, .string b2, .float .f64 c2, .int .i64 d2, .slice A2 n2 m2], .bool q] w fun e w' => e = .returned (.bool (decide (k1 < k2))) ∧ Below w.heap.size w w' := by
  have HB := Aside0.mk (Below.alloc ((Below.refl w.heap.size w).alloc (Nat.le_refl _) (Obj.cells #[.int .i64 k1, .string a1, .string b1, .float .f64 c1, .int .i64 d1, .slice A1 n1 m1] 50)) (by simp) (Obj.cells #[.int .i64 k2, .string a2, .string b2, .float .f64 c2, .int .i64 d2, .slice A2 n2 m2] 50))
  by_cases h : k1 < k2
  · have e1 : decide (k1 < k2) = true := decide_eq_true h
    rw [e1]
    clear hk
    go_enter Tryz.func25, Tryz.ntmps25
    go_wp2
    go_ret
    exact ⟨rfl, HB.out⟩
  · have e1 : decide (k1 < k2) = false := decide_eq_false h
    have e2 : decide (k1 > k2) = true := decide_eq_true (by omega)
    have e2b : decide (k2 < k1) = true := decide_eq_true (by omega)
    rw [e1]
    clear hk
    go_enter Tryz.func25, Tryz.ntmps25
    go_wp2
    go_ret
    exact ⟨rfl, HB.out⟩
set_option maxRecDepth 100000 in
set_option maxHeartbeats 8000000 in
theorem less_num (q : Bool) (a1 b1 a2 b2 : ByteArray) (c1 c2 : Nat) (d1 d2 : Int) (A1 A2 : Option Addr) (n1 m1 n2 m2 : Nat) (w : World) :
    Calls Tryz.prog 25 #[.agg #[.int .i64 2, .string a1, .string b1, .float .f64 c1, .int .i64 d1, .slice A1 n1 m1], .agg #[.int .i64 2, .string a2, .string b2, .float .f64 c2, .int .i64 d2, .slice A2 n2 m2], .bool q] w fun e w' => e = .returned (.bool (FloatKind.f64.format.order c1 c2 == some .lt)) ∧ Below w.heap.size w w' := by
  have HB := Aside0.mk (Below.alloc ((Below.refl w.heap.size w).alloc (Nat.le_refl _) (Obj.cells #[.int .i64 2, .string a1, .string b1, .float .f64 c1, .int .i64 d1, .slice A1 n1 m1] 50)) (by simp) (Obj.cells #[.int .i64 2, .string a2, .string b2, .float .f64 c2, .int .i64 d2, .slice A2 n2 m2] 50))
  go_enter Tryz.func25, Tryz.ntmps25
  go_wp2
  all_goals
    go_ret
    exact ⟨rfl, HB.out⟩
set_option maxRecDepth 100000 in
set_option maxHeartbeats 8000000 in
theorem less_str (a1 b1 a2 b2 : ByteArray) (c1 c2 : Nat) (d1 d2 : Int) (A1 A2 : Option Addr) (n1 m1 n2 m2 : Nat) (w : World) :
    Calls Tryz.prog 25 #[.agg #[.int .i64 3, .string a1, .string b1, .float .f64 c1, .int .i64 d1, .slice A1 n1 m1], .agg #[.int .i64 3, .string a2, .string b2, .float .f64 c2, .int .i64 d2, .slice A2 n2 m2], .bool true] w fun e w' => e = .returned (.bool (Op.bytesLess b1.toList b2.toList)) ∧ Below w.heap.size w w' := by
  have HB := Aside0.mk (Below.alloc ((Below.refl w.heap.size w).alloc (Nat.le_refl _) (Obj.cells #[.int .i64 3, .string a1, .string b1, .float .f64 c1, .int .i64 d1, .slice A1 n1 m1] 50)) (by simp) (Obj.cells #[.int .i64 3, .string a2, .string b2, .float .f64 c2, .int .i64 d2, .slice A2 n2 m2] 50))
  go_enter Tryz.func25, Tryz.ntmps25
  go_wp2
  go_ret
  exact ⟨rfl, HB.out⟩
set_option maxRecDepth 100000 in
set_option maxHeartbeats 8000000 in
theorem less_str_in (a1 b1 a2 b2 : ByteArray) (hs : b1.size ≤ 140737488351232) (c1 c2 : Nat) (d1 d2 : Int) (A1 A2 : Option Addr) (n1 m1 n2 m2 : Nat) (w : World) :
    Calls Tryz.prog 25 #[.agg #[.int .i64 3, .string a1, .string b1, .float .f64 c1, .int .i64 d1, .slice A1 n1 m1], .agg #[.int .i64 3, .string a2, .string b2, .float .f64 c2, .int .i64 d2, .slice A2 n2 m2], .bool false] w fun e w' => e = .returned (.bool (Op.bytesLess (lower b1).toList (lower b2).toList)) ∧ Below w.heap.size w w' := by
  have HB := Aside0.mk (Below.alloc ((Below.refl w.heap.size w).alloc (Nat.le_refl _) (Obj.cells #[.int .i64 3, .string a1, .string b1, .float .f64 c1, .int .i64 d1, .slice A1 n1 m1] 50)) (by simp) (Obj.cells #[.int .i64 3, .string a2, .string b2, .float .f64 c2, .int .i64 d2, .slice A2 n2 m2] 50))
  obtain ⟨k, hk⟩ := less_any b1 b2 hs
  rw [← lower_toList, ← lower_toList] at hk
  have HK := Aside0.mk hk
  clear hk hs
  go_enter Tryz.func25, Tryz.ntmps25
  go_wp2_with fail
  refine (gjson_stringLessInsensitive.calls k _ _ _ _ HK.out).mono ?_
  rintro e w1 ⟨rfl, n, rfl⟩
  go_wp2
  go_ret
  exact ⟨rfl, pw_below_drewN HB.out _⟩
end Go.Proofs.YtldfejbmdonaoaaGreatDoor.Lx