/- Joined by a program of mine from texts of this claim: Bt. -/
import Derived.Test.YtldfejbmdonaoaaDoorX9
namespace Go.Proofs.YtldfejbmdonaoaaDoor.Bt
open Go.RowKit YtldfejbmdonaoaaDoorW.PrintWords YtldfejbmdonaoaaDoorW.PrintLast YtldfejbmdonaoaaDoorW.PrintMore
theorem bt_in {s : ByteArray} {j : Nat} (h : j < s.size) : bt s (j : Int) = ((s[j]'h).toNat : Int) := by
  unfold bt
  simp [h]
theorem bt_out {s : ByteArray} {j : Nat} (h : s.size ≤ j) : bt s (j : Int) = 0 := by
  unfold bt
  simp [Nat.not_lt.mpr h]
theorem bt_at0 (s : ByteArray) : ∀ h : 0 < s.size, ((s[0]'h).toNat : Int) = bt s 0 := fun h => (bt_in (j := 0) h).symm
theorem bt_append_left {a b : ByteArray} {j : Nat} (h : j < a.size) : bt (a ++ b) (j : Int) = bt a (j : Int) := by
  rw [bt_in h, bt_in (by rw [ByteArray.size_append]; omega), ByteArray.getElem_append_left h]
theorem bt_append_right {a b : ByteArray} (j : Nat) : bt (a ++ b) ((a.size + j : Nat) : Int) = bt b (j : Int) := by
  by_cases h : j < b.size
  · rw [bt_in h, bt_in (by rw [ByteArray.size_append]; omega), ByteArray.getElem_append_right (by omega)]
    simp
  · rw [bt_out (s := a ++ b) (by rw [ByteArray.size_append]; omega), bt_out (s := b) (by omega)]
theorem bt_extract {s : ByteArray} {a b : Nat} (hb : b ≤ s.size) {j : Nat} (h : a + j < b) : bt (s.extract a b) (j : Int) = bt s ((a + j : Nat) : Int) := by
  have h1 : j < (s.extract a b).size := by rw [ByteArray.size_extract]; omega
  rw [bt_in h1, bt_in (by omega), ByteArray.getElem_extract]
theorem byte_of (x : Int) (h0 : 0 ≤ x) (h1 : x ≤ 255) : ((UInt8.ofNat x.toNat).toNat : Int) = x := by
  rw [UInt8.toNat_ofNat']
  omega
theorem bt_nums {l : List Int} {j : Nat} (h : j < l.length) (h0 : 0 ≤ l[j]) (h1 : l[j] ≤ 255) : bt (strOfNums l) (j : Int) = l[j] := by
  have hs : j < (strOfNums l).size := by rw [strOfNums_size]; exact h
  rw [bt_in hs]
  have : (strOfNums l)[j] = UInt8.ofNat (l[j]).toNat := by
    show (strOfNums l).data[j] = _
    simp [strOfNums]
  rw [this, byte_of _ h0 h1]
theorem ext_bt {a b : ByteArray} (hs : a.size = b.size) (h : ∀ j : Nat, j < a.size → bt a (j : Int) = bt b (j : Int)) : a = b := by
  refine ByteArray.ext_getElem hs fun i hi hi' => ?_
  have := h i hi
  rw [bt_in hi, bt_in hi'] at this
  exact UInt8.toNat_inj.mp (by omega)
theorem extract_whole (s : ByteArray) : s.extract 0 s.size = s := by
  refine ext_bt (by rw [ByteArray.size_extract]; omega) fun j hj => ?_
  have hj' : j < s.size := by rw [ByteArray.size_extract] at hj; omega
  rw [bt_extract (Nat.le_refl _) (by omega), Nat.zero_add]
end Go.Proofs.YtldfejbmdonaoaaDoor.Bt