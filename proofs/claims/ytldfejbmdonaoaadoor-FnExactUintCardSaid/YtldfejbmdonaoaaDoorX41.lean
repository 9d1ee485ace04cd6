/- Joined by a program of mine from texts of this claim: Sh, Ru, Uq, Tb, Ts. -/
import Derived.Shelf.Spec.EncodeRune
import Derived.Shelf.Strconv.Itoa0
import Derived.Shelf.LaysM
import Derived.Shelf.Strconv.Clone
import Derived.Shelf.Strconv.SyntaxError
import Derived.Shelf.LaysC
import Derived.Shelf.Strconv.ToError
import Derived.Shelf.Strconv.Lower
import Derived.Shelf.Strconv.RangeError
import Derived.Shelf.Strconv.ToErrorRange
import Derived.Shelf.Bits.Mul64
import Derived.Test.YtldfejbmdonaoaaDoorProg
import Derived.Test.YtldfejbmdonaoaaDoorX38
import Derived.Test.YtldfejbmdonaoaaDoorX10
import Derived.Deep.QuietTactic
import Derived.BigQuiet
import Derived.Test.YtldfejbmdonaoaaDoorX40
import Derived.Laws.MakeOwn
import Derived.RegionTactic
import Derived.BigRegion
import Derived.Deep.RegionHeld3
namespace Go.Proofs.YtldfejbmdonaoaaDoor.Sh
open Go.Proofs
open Go.Shelf
end Go.Proofs.YtldfejbmdonaoaaDoor.Sh
namespace Go.Proofs.YtldfejbmdonaoaaDoor.Ru
open Go.RowKit YtldfejbmdonaoaaDoorW.PrintWords YtldfejbmdonaoaaDoorW.PrintLast YtldfejbmdonaoaaDoorW.PrintMore Te
set_option linter.unusedVariables false
set_option linter.unusedSimpArgs false
theorem or32 {c : Int} (h : 97 ≤ c ∧ c ≤ 102) : bits .or .u8 c 32 = c := by
  have e : c = 97 ∨ c = 98 ∨ c = 99 ∨ c = 100 ∨ c = 101 ∨ c = 102 := by omega
  rcases e with rfl | rfl | rfl | rfl | rfl | rfl <;> decide
theorem lower_walk (c d : Int) (w : World) (h : bits .or .u8 c 32 = d) : Calls Tryd.prog 84 #[.int .u8 c] w fun e w' => e = .returned (.int .u8 d) ∧ w = w' := by
  go_enter Tryd.func84, Tryd.ntmps84
  go_wp2
  go_ret
  exact ⟨rfl, rfl⟩
end Go.Proofs.YtldfejbmdonaoaaDoor.Ru
namespace Go.Proofs.YtldfejbmdonaoaaDoor.Uq
open Go.RowKit YtldfejbmdonaoaaDoorW.PrintWords YtldfejbmdonaoaaDoorW.PrintLast YtldfejbmdonaoaaDoorW.PrintMore Tp Te Ub Ru
set_option linter.unusedVariables false
set_option linter.unusedSimpArgs false
def St (B : Nat) (w0 w : World) (v : Value) (xs : List Int) : Prop := w.ownsRow B 5 1 v xs.length (nums .u8 xs) ∧ Below B w0 w ∧ B ≤ w.heap.size
def over : List Int → Nat → List Int → List Int
  | xs, _, [] => xs
  | xs, o, y :: ys => over (xs.set o y) (o + 1) ys
theorem St.below {B : Nat} {w0 W W' : World} {v : Value} {xs : List Int} (h : St B w0 W v xs) (hb : Below W.heap.size W W') : St B w0 W' v xs :=
  ⟨own_move h.1 (fun k hk => hb.block k (h.1.lt k hk).2), below_then h.2.1 h.2.2 hb, Nat.le_trans h.2.2 hb.size⟩
end Go.Proofs.YtldfejbmdonaoaaDoor.Uq
namespace Go.Proofs.YtldfejbmdonaoaaDoor.Tb
open Go.RowKit YtldfejbmdonaoaaDoorW.PrintWords YtldfejbmdonaoaaDoorW.PrintLast YtldfejbmdonaoaaDoorW.PrintMore Tp Te
set_option linter.unusedVariables false
set_option linter.unusedSimpArgs false
end Go.Proofs.YtldfejbmdonaoaaDoor.Tb
namespace Go.Proofs.YtldfejbmdonaoaaDoor.Ts
open Go.RowKit YtldfejbmdonaoaaDoorW.PrintWords YtldfejbmdonaoaaDoorW.PrintLast YtldfejbmdonaoaaDoorW.PrintMore Tp Te Ub Uq Tb
set_option linter.unusedVariables false
set_option linter.unusedSimpArgs false
section
variable {u : ByteArray} {x : Int}
end
end Go.Proofs.YtldfejbmdonaoaaDoor.Ts