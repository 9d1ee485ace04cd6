/- Joined by a program of mine from texts of this claim: WInv, WInvWords, WGuard, Sp0. -/
import Derived.Test.YtldfejbmdonaoaaDoorX30
import Derived.Test.YtldfejbmdonaoaaDoorX31
import Derived.Test.YtldfejbmdonaoaaDoorX2
import Derived.Test.YtldfejbmdonaoaaDoorProg
import Derived.Below
import Derived.Deep.Draws
import Derived.Deep.AppendLies
import Derived.Maps.AppendAt
import Derived.OwnWalk
import Derived.Laws.BytesArg
import Derived.Laws.MakeOwn
import Derived.Laws.OwnMore
import Derived.Deep.OwnRows
import Derived.Tactics
import Derived.Lib.ConvBytes
import Derived.Laws.Slices
import Derived.WalkKit
import Derived.KernelRfl
import Derived.RowKit3
import Derived.Deep.LoopGhost
import Derived.Deep.QuietTactic
import Derived.BigQuiet
import Derived.WideLaws
import Derived.Deep.DeepCutAuto
import Derived.Deep.CutBlock
import Derived.Deep.RegionHeld3
import Derived.Laws.Rows
import Derived.Lib.AppendStr
import Derived.ArgAppend
import Derived.Laws.IdiomCopy
import Derived.OrdersHeld
import Derived.Laws.BitsLemmas
import Derived.RowKit
import Derived.Test.YtldfejbmdonaoaaDoorX3
import Derived.Test.YtldfejbmdonaoaaDoorX4
import Derived.Test.YtldfejbmdonaoaaDoorX5
import Derived.Test.YtldfejbmdonaoaaDoorX6
import Derived.Test.YtldfejbmdonaoaaDoorX7
import Derived.Test.YtldfejbmdonaoaaDoorX8
import Derived.Test.YtldfejbmdonaoaaDoorX32
import Derived.Test.YtldfejbmdonaoaaDoorX9
namespace Go.Proofs.YtldfejbmdonaoaaDoorW.PrintLast
section
variable {P : Program} {ops : Array Oper} {Q : Exit → Act → World → Prop} {md : Region.Mode} {T : Bool × List (List Nat × List Nat)} {B : List Nat} {O : List Nat} {b : Nat → Bool} {i j n : Nat}
end
end Go.Proofs.YtldfejbmdonaoaaDoorW.PrintLast
namespace Go.Proofs.YtldfejbmdonaoaaDoorW.PrintWords
open Go.RowKit
end Go.Proofs.YtldfejbmdonaoaaDoorW.PrintWords
namespace Go.Proofs.YtldfejbmdonaoaaDoorW.PrintLast
section
variable {ops : Array Oper} {a : Act} {o og : Oper} {g : Nat} {t : Tmp} {u : Bool}
end
end Go.Proofs.YtldfejbmdonaoaaDoorW.PrintLast
namespace Go.Proofs.YtldfejbmdonaoaaDoorW.PrintWords
open Go.RowKit
section
variable {P : Program} {ops : Array Oper} {rest : List Oper} {o : Oper} {a : Act} {Q : Exit → Act → World → Prop} {W : World}
end
end Go.Proofs.YtldfejbmdonaoaaDoorW.PrintWords
namespace Go.Proofs.YtldfejbmdonaoaaDoor.Sp
open Go.RowKit YtldfejbmdonaoaaDoorW.PrintWords YtldfejbmdonaoaaDoorW.PrintLast YtldfejbmdonaoaaDoorW.PrintMore
attribute [local go_sem] max2_int min2_int max_two min_two max_three min_three max_four min_four   -- for this text's walks alone
set_option linter.unusedVariables false
set_option linter.unusedSimpArgs false
def errW : Option Int → Value
  | none => .nilIface
  | some c => .iface 0 (.int .i64 c)
theorem errW_none : errW none = .nilIface := rfl
theorem errW_some (c : Int) : errW (some c) = .iface 0 (.int .i64 c) := rfl
end Go.Proofs.YtldfejbmdonaoaaDoor.Sp