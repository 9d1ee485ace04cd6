/- Joined by a program of mine from texts of this claim: Tb. -/
import Derived.Test.YtldfejbmdonaoaaGreatDoorZB27
import Derived.Test.YtldfejbmdonaoaaGreatDoorZB2
namespace Go.Proofs.YtldfejbmdonaoaaGreatDoor.Tb
open Go.RowKit YtldfejbmdonaoaaGreatDoorW.PrintWords YtldfejbmdonaoaaGreatDoorW.PrintLast YtldfejbmdonaoaaGreatDoorW.PrintMore Tp Te
set_option linter.unusedVariables false
set_option linter.unusedSimpArgs false
def cbytes (s : ByteArray) (i n : Int) : List Int := ((bytesOf s).drop i.toNat).take n.toNat
theorem bytes_at (s : ByteArray) (q : Nat) (h : q < s.size) : (bytesOf s)[q]? = some (bt s q) := by
  have hl : q < (bytesOf s).length := by rw [bytesOf_length]; exact h
  rw [List.getElem?_eq_getElem hl]
  have := rd_bytesOf s (q : Int)
  unfold rd at this
  rw [Int.toNat_natCast, List.getD_eq_getElem?_getD, List.getElem?_eq_getElem hl] at this
  rw [← this]
  rfl
theorem cbytes_is {s : ByteArray} {i n : Int} (h0 : 0 ≤ i) (hn : 0 ≤ n) (h1 : i + n ≤ (s.size : Int)) : cbytes s i n = (List.range n.toNat).map fun (q : Nat) => bt s (i + (q : Int)) := by
  unfold cbytes
  apply List.ext_getElem?
  intro q
  by_cases h : q < n.toNat
  · rw [List.getElem?_take_of_lt h, List.getElem?_drop, bytes_at s (i.toNat + q) (by omega)]
    simp [h]
    congr 1
    omega
  · rw [List.getElem?_eq_none (by rw [List.length_take]; omega), List.getElem?_eq_none (by simp; omega)]
theorem bytes_ext {s : ByteArray} {i n : Int} (h0 : 0 ≤ i) (hn : 0 ≤ n) (h1 : i + n ≤ (s.size : Int)) : bytesOf (s.extract i.toNat (i + n).toNat) = cbytes s i n := by
  unfold cbytes bytesOf
  rw [show (s.extract i.toNat (i + n).toNat).data.toList = (s.data.toList.drop i.toNat).take n.toNat by
    rw [ByteArray.data_extract, Array.toList_extract, List.extract_eq_take_drop]
    congr 1
    omega, List.map_take, List.map_drop]
end Go.Proofs.YtldfejbmdonaoaaGreatDoor.Tb