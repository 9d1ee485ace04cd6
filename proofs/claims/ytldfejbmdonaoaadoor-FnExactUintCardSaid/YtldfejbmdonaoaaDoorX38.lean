/- Joined by a program of mine from texts of this claim: Te. -/
import Derived.Test.YtldfejbmdonaoaaDoorX37
namespace Go.Proofs.YtldfejbmdonaoaaDoor.Te
open Go.RowKit YtldfejbmdonaoaaDoorW.PrintWords YtldfejbmdonaoaaDoorW.PrintLast YtldfejbmdonaoaaDoorW.PrintMore Tw Tf Tp Sp
set_option linter.unusedVariables false
set_option linter.unusedSimpArgs false
def hx (c : Int) : Bool := (decide (48 ≤ c) && decide (c ≤ 57)) || (decide (97 ≤ c) && decide (c ≤ 102)) || (decide (65 ≤ c) && decide (c ≤ 70))
def hv (c : Int) : Int := if c ≤ 57 then c - 48 else if 97 ≤ c then c - 87 else c - 55
def hex4 (s : ByteArray) (i : Int) : Bool := hx (bt s i) && hx (bt s (i + 1)) && hx (bt s (i + 2)) && hx (bt s (i + 3))
def hexV (s : ByteArray) (i : Int) : Int := ((hv (bt s i) * 16 + hv (bt s (i + 1))) * 16 + hv (bt s (i + 2))) * 16 + hv (bt s (i + 3))
section
variable {s : ByteArray} {i : Int}
def runeL (n : Int) : List Int :=
  if n < 128 then [n % 256] else if n < 2048 then [(192 + n / 64) % 256, (128 + n % 64) % 256]
  else if n < 65536 then [(224 + n / 4096) % 256, (128 + n / 64 % 64) % 256, (128 + n % 64) % 256]
  else [(240 + n / 262144) % 256, (128 + n / 4096 % 64) % 256, (128 + n / 64 % 64) % 256, (128 + n % 64) % 256]
def esc (c : Int) : Bool := c == 34 || c == 92 || c == 47 || c == 98 || c == 102 || c == 110 || c == 114 || c == 116
def escV (c : Int) : Int := if c = 98 then 8 else if c = 102 then 12 else if c = 110 then 10 else if c = 114 then 13 else if c = 116 then 9 else c
end
end Go.Proofs.YtldfejbmdonaoaaDoor.Te