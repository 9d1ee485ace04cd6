-- Written by the kit's print.py for this claim (one function a text). Not trusted: Lean checks it.
import Derived.Test.YteehmhakcdaljaaProg
import Derived.Below
import Derived.Deep.Draws
import Derived.Deep.AppendLies
import Derived.Maps.AppendAt
import Derived.OwnWalk
import Derived.Laws.BytesArg
import Derived.Laws.MakeOwn
import Derived.Laws.OwnMore
import Derived.Deep.OwnRows
import Derived.Tactics
import Derived.Lib.ConvBytes
import Derived.Laws.Slices
import Derived.WalkKit
import Derived.KernelRfl
import Derived.RowKit3
import Derived.Deep.LoopGhost
import Derived.Deep.QuietTactic
import Derived.BigQuiet
import Derived.WideLaws
import Derived.Deep.DeepCutAuto
import Derived.Deep.CutBlock
import Derived.Deep.RegionHeld3
import Derived.Laws.Rows
import Derived.Lib.AppendStr
import Derived.ArgAppend
import Derived.Laws.IdiomCopy
import Derived.OrdersHeld
import Derived.Laws.BitsLemmas
import Derived.RowKit
import Derived.Test.YteehmhakcdaljaaWWords
import Derived.Test.YteehmhakcdaljaaWLast
import Derived.Test.YteehmhakcdaljaaWTab
import Derived.Test.YteehmhakcdaljaaWFour
import Derived.Test.YteehmhakcdaljaaWQPut
import Derived.Test.YteehmhakcdaljaaWApart
import Derived.Test.YteehmhakcdaljaaWArr
import Derived.Test.YteehmhakcdaljaaWZeros
import Derived.Test.YteehmhakcdaljaaWFoot
import Derived.Test.YteehmhakcdaljaaWKept
import Derived.Test.YteehmhakcdaljaaWShare
import Derived.Test.YteehmhakcdaljaaWN
import Derived.Test.YteehmhakcdaljaaWFootNe
import Derived.Test.YteehmhakcdaljaaWAt
import Derived.Test.YteehmhakcdaljaaWEqStruct
import Derived.Test.YteehmhakcdaljaaWRepsOne
import Derived.Test.YteehmhakcdaljaaWInv
import Derived.Test.YteehmhakcdaljaaWInvWords
import Derived.Test.YteehmhakcdaljaaWGuard
import Derived.Test.YteehmhakcdaljaaWNEv
import Derived.Test.YteehmhakcdaljaaWMore
namespace Go.Proofs.Yteehmhakcdaljaa.Vs
open Go.RowKit Go.Proofs.YteehmhakcdaljaaW.PrintWords Go.Proofs.YteehmhakcdaljaaW.PrintLast Go.Proofs.YteehmhakcdaljaaW.PrintMore
attribute [local go_sem] max2_int min2_int max_two min_two max_three min_three max_four min_four   -- for this text's walks alone
set_option linter.unusedVariables false
set_option linter.unusedSimpArgs false



def errW : Option Int → Value
  | none => .nilIface
  | some c => .iface 0 (.int .i64 c)
theorem errW_none : errW none = .nilIface := rfl
theorem errW_some (c : Int) : errW (some c) = .iface 0 (.int .i64 c) := rfl

-- the values' own types

end Go.Proofs.Yteehmhakcdaljaa.Vs
