/- Joined by a program of mine from texts of this claim: Sp5, Sp6, Sp7, Sp8. -/
import Derived.Test.YtldfejbmdonaoaaGreatDoorZ9
import Derived.Test.YtldfejbmdonaoaaGreatDoorZ10
import Derived.Test.YtldfejbmdonaoaaGreatDoorZ11
import Derived.Lib.SlBytesConst
namespace Go.Proofs.YtldfejbmdonaoaaGreatDoor.Sp
open Go.RowKit YtldfejbmdonaoaaGreatDoorW.PrintWords YtldfejbmdonaoaaGreatDoorW.PrintLast YtldfejbmdonaoaaGreatDoorW.PrintMore
attribute [local go_sem] max2_int min2_int max_two min_two max_three min_three max_four min_four   -- for this text's walks alone
set_option linter.unusedVariables false
set_option linter.unusedSimpArgs false
mutual
def spec_reading_escape.j1 : Nat → Int → Bool → ByteArray → Int → Bool → Option (ByteArray × Bool × ByteArray × Int × Bool)
  | 0, _, _, _, _, _ => none
  | k + 1, x7, x59, x1000, x1001, x1002 => if x59 = true then ((spec_Rune.f x7).bind fun t129 => (some (t129, true, x1000, x1001, x1002))) else (if x7 ≥ 56320 then (spec_reading_escape.j2 k x7 true x1000 x1001 x1002) else (if (wrap64 (x1001 + 1)) ≥ (x1000.size : Int) then (spec_reading_escape.j2 k x7 true x1000 x1001 x1002) else (if 0 ≤ x1001 then (if x1001 < (x1000.size : Int) then (if (bt x1000 x1001) = 92 then (if 0 ≤ (wrap64 (x1001 + 1)) then (if (wrap64 (x1001 + 1)) < (x1000.size : Int) then (spec_reading_escape.j2 k x7 ((bt x1000 (wrap64 (x1001 + 1))) != 117) x1000 x1001 x1002) else (none)) else (none)) else (spec_reading_escape.j2 k x7 true x1000 x1001 x1002)) else (none)) else (none))))
def spec_reading_escape.j2 : Nat → Int → Bool → ByteArray → Int → Bool → Option (ByteArray × Bool × ByteArray × Int × Bool)
  | 0, _, _, _, _, _ => none
  | k + 1, x7, x101, x1000, x1001, x1002 => if x101 = true then (some ((⟨#[]⟩ : ByteArray), false, x1000, x1001, x1002)) else ((spec_reading_hex.f k x1000 (wrap64 (x1001 + 2)) x1002).bind fun bt130 => (if bt130.1 < 56320 then (some ((⟨#[]⟩ : ByteArray), false, bt130.2.1, bt130.2.2.1, bt130.2.2.2)) else (if bt130.1 > 57343 then (some ((⟨#[]⟩ : ByteArray), false, bt130.2.1, bt130.2.2.1, bt130.2.2.2)) else ((spec_Rune.f (wrap64 ((wrap64 ((wrap64 (65536 + (wrap64 ((wrap64 (x7 - 55296)) * 1024)))) + bt130.1)) - 56320))).bind fun t134 => (some (t134, true, bt130.2.1, bt130.2.2.1, bt130.2.2.2))))))
def spec_reading_escape.l0 : Nat → Int → List Int → Int → Int → ByteArray → Int → Bool → Option (ByteArray × Bool × ByteArray × Int × Bool)
  | 0, _, _, _, _, _, _, _ => none
  | k + 1, x4, x14, x15, x16, x1000, x1001, x1002 => if x16 < x15 then (if 0 ≤ x16 then (if x16 < (x14.length : Int) then (if x4 = (rd x14 x16) then (if x16 ≤ (wrap64 (x16 + 1)) then (if (wrap64 (x16 + 1)) ≤ 8 then (some ((⟨#[34, 92, 47, 8, 12, 10, 13, 9]⟩ : ByteArray).extract (x16 : Int).toNat ((wrap64 (x16 + 1)) : Int).toNat, true, x1000, wrap64 (x1001 + 1), x1002)) else (none)) else (none)) else (spec_reading_escape.l0 k x4 x14 x15 (wrap64 (x16 + 1)) x1000 x1001 x1002)) else (none)) else (none)) else (some ((⟨#[]⟩ : ByteArray), false, x1000, x1001, true))
end
def spec_reading_escape.f (k : Nat) (s0_0 : ByteArray) (s0_1 : Int) (s0_2 : Bool) : Option (ByteArray × Bool × ByteArray × Int × Bool) := (spec_reading_next.f s0_0 s0_1 s0_2).bind fun bt117 => (if bt117.1 = 117 then ((spec_reading_hex.f k bt117.2.1 (wrap64 (bt117.2.2.1 + 1)) bt117.2.2.2).bind fun bt125 => (if bt125.1 < 55296 then (spec_reading_escape.j1 k bt125.1 true bt125.2.1 bt125.2.2.1 bt125.2.2.2) else (if bt125.1 > 57343 then (spec_reading_escape.j1 k bt125.1 true bt125.2.1 bt125.2.2.1 bt125.2.2.2) else (spec_reading_escape.j1 k bt125.1 bt125.2.2.2 bt125.2.1 bt125.2.2.1 bt125.2.2.2)))) else ((some (([34, 92, 47, 98, 102, 110, 114, 116] : List Int) : List Int)).bind fun y121 => (spec_reading_escape.l0 k bt117.1 y121 (y121.length : Int) 0 bt117.2.1 bt117.2.2.1 bt117.2.2.2)))
end Go.Proofs.YtldfejbmdonaoaaGreatDoor.Sp
namespace Go.Proofs.YtldfejbmdonaoaaGreatDoor.Sp
open Go.RowKit YtldfejbmdonaoaaGreatDoorW.PrintWords YtldfejbmdonaoaaGreatDoorW.PrintLast YtldfejbmdonaoaaGreatDoorW.PrintMore
attribute [local go_sem] max2_int min2_int max_two min_two max_three min_three max_four min_four   -- for this text's walks alone
set_option linter.unusedVariables false
set_option linter.unusedSimpArgs false
mutual
def spec_reading_text.l0 : Nat → List Int → Bool → ByteArray → Int → Bool → Option (ByteArray × Bool × ByteArray × Int × Bool)
  | 0, _, _, _, _, _ => none
  | k + 1, x4, x5, x1000, x1001, x1002 => if x1002 = true then (some (strOfNums x4, x5, x1000, x1001, x1002)) else (if x1001 ≥ (x1000.size : Int) then (spec_reading_text.j1 k x4 x5 true x1000 x1001 x1002) else (if 0 ≤ x1001 then (if x1001 < (x1000.size : Int) then (spec_reading_text.j1 k x4 x5 (decide ((bt x1000 x1001) < 32)) x1000 x1001 x1002) else (none)) else (none)))
def spec_reading_text.j1 : Nat → List Int → Bool → Bool → ByteArray → Int → Bool → Option (ByteArray × Bool × ByteArray × Int × Bool)
  | 0, _, _, _, _, _, _ => none
  | k + 1, x4, x5, x38, x1000, x1001, x1002 => if x38 = true then (some (strOfNums x4, x5, x1000, x1001, true)) else (if 0 ≤ x1001 then (if x1001 < (x1000.size : Int) then (if (bt x1000 x1001) = 34 then (some (strOfNums x4, x5, x1000, wrap64 (x1001 + 1), x1002)) else (if (bt x1000 x1001) = 92 then ((spec_reading_escape.f k x1000 (wrap64 (x1001 + 1)) x1002).bind fun bt141 => (if x4.length + bt141.1.size < 140737488355328 then ((some (x4 ++ bytesOf bt141.1 : List Int)).bind fun y146 => (if x5 = true then (spec_reading_text.l0 k y146 bt141.2.1 bt141.2.2.1 bt141.2.2.2.1 bt141.2.2.2.2) else (spec_reading_text.l0 k y146 false bt141.2.2.1 bt141.2.2.2.1 bt141.2.2.2.2))) else (none))) else (if x4.length < 140737488355328 then (spec_reading_text.l0 k (x4 ++ [bt x1000 x1001]) x5 x1000 (wrap64 (x1001 + 1)) x1002) else (none)))) else (none)) else (none))
end
def spec_reading_text.f (k : Nat) (s0_0 : ByteArray) (s0_1 : Int) (s0_2 : Bool) : Option (ByteArray × Bool × ByteArray × Int × Bool) := (spec_reading_take.f s0_0 s0_1 s0_2 34).bind fun bt135 => (spec_reading_text.l0 k (([] : List Int)) true bt135.1 bt135.2.1 bt135.2.2)
end Go.Proofs.YtldfejbmdonaoaaGreatDoor.Sp
namespace Go.Proofs.YtldfejbmdonaoaaGreatDoor.Sp
open Go.RowKit YtldfejbmdonaoaaGreatDoorW.PrintWords YtldfejbmdonaoaaGreatDoorW.PrintLast YtldfejbmdonaoaaGreatDoorW.PrintMore
attribute [local go_sem] max2_int min2_int max_two min_two max_three min_three max_four min_four   -- for this text's walks alone
set_option linter.unusedVariables false
set_option linter.unusedSimpArgs false
def spec_reading_word.l0 : Nat → ByteArray → Int → ByteArray → Int → Bool → Option (ByteArray × Int × Bool)
  | 0, _, _, _, _, _ => none
  | k + 1, x1, x4, x1000, x1001, x1002 => if x4 < (x1.size : Int) then (if x1002 = true then (some (x1000, x1001, x1002)) else (if 0 ≤ x4 then ((spec_reading_take.f x1000 x1001 x1002 (bt x1 x4)).bind fun bt152 => (spec_reading_word.l0 k x1 (wrap64 (x4 + 1)) bt152.1 bt152.2.1 bt152.2.2)) else (none))) else (some (x1000, x1001, x1002))
def spec_reading_word.f (k : Nat) (s0_0 : ByteArray) (s0_1 : Int) (s0_2 : Bool) (a1 : ByteArray) : Option (ByteArray × Int × Bool) := spec_reading_word.l0 k a1 0 s0_0 s0_1 s0_2
end Go.Proofs.YtldfejbmdonaoaaGreatDoor.Sp
namespace Go.Proofs.YtldfejbmdonaoaaGreatDoor.Sp
open Go.RowKit YtldfejbmdonaoaaGreatDoorW.PrintWords YtldfejbmdonaoaaGreatDoorW.PrintLast YtldfejbmdonaoaaGreatDoorW.PrintMore
attribute [local go_sem] max2_int min2_int max_two min_two max_three min_three max_four min_four   -- for this text's walks alone
set_option linter.unusedVariables false
set_option linter.unusedSimpArgs false
mutual
def spec_reading_digits.j0 : Nat → Bool → ByteArray → Int → Bool → Option (ByteArray × Int × Bool)
  | 0, _, _, _, _ => none
  | k + 1, x11, x1000, x1001, x1002 => if x11 = true then (spec_reading_digits.j1 k x1000 x1001 true) else (spec_reading_digits.j1 k x1000 x1001 x1002)
def spec_reading_digits.j1 : Nat → ByteArray → Int → Bool → Option (ByteArray × Int × Bool)
  | 0, _, _, _ => none
  | k + 1, x1000, x1001, x1002 => (spec_reading_next.f x1000 x1001 x1002).bind fun bt159 => (spec_reading_digits.l0 k bt159.1 bt159.2.1 bt159.2.2.1 bt159.2.2.2)
def spec_reading_digits.l0 : Nat → Int → ByteArray → Int → Bool → Option (ByteArray × Int × Bool)
  | 0, _, _, _, _ => none
  | k + 1, x3, x1000, x1001, x1002 => if x3 ≥ 48 then (if x3 ≤ 57 then ((spec_reading_next.f x1000 (wrap64 (x1001 + 1)) x1002).bind fun bt163 => (spec_reading_digits.l0 k bt163.1 bt163.2.1 bt163.2.2.1 bt163.2.2.2)) else (some (x1000, x1001, x1002))) else (some (x1000, x1001, x1002))
end
def spec_reading_digits.f (k : Nat) (s0_0 : ByteArray) (s0_1 : Int) (s0_2 : Bool) : Option (ByteArray × Int × Bool) := (spec_reading_next.f s0_0 s0_1 s0_2).bind fun bt155 => (if bt155.1 < 48 then (spec_reading_digits.j0 k true bt155.2.1 bt155.2.2.1 bt155.2.2.2) else (spec_reading_digits.j0 k (decide (bt155.1 > 57)) bt155.2.1 bt155.2.2.1 bt155.2.2.2))
end Go.Proofs.YtldfejbmdonaoaaGreatDoor.Sp