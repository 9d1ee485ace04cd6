-- Written by the kit's print.py for this claim (one function a text). Not trusted: Lean checks it.
import Derived.Test.YteehmhakcdaljaaDoorProg
import Derived.Below
import Derived.Deep.Draws
import Derived.Deep.AppendLies
import Derived.Maps.AppendAt
import Derived.OwnWalk
import Derived.Laws.BytesArg
import Derived.Laws.MakeOwn
import Derived.Laws.OwnMore
import Derived.Deep.OwnRows
import Derived.Tactics
import Derived.Lib.ConvBytes
import Derived.Laws.Slices
import Derived.WalkKit
import Derived.KernelRfl
import Derived.RowKit3
import Derived.Deep.LoopGhost
import Derived.Deep.QuietTactic
import Derived.BigQuiet
import Derived.WideLaws
import Derived.Deep.DeepCutAuto
import Derived.Deep.CutBlock
import Derived.Deep.RegionHeld3
import Derived.Laws.Rows
import Derived.Lib.AppendStr
import Derived.ArgAppend
import Derived.Laws.IdiomCopy
import Derived.OrdersHeld
import Derived.Laws.BitsLemmas
import Derived.RowKit
import Derived.Test.YteehmhakcdaljaaDoorWWords
import Derived.Test.YteehmhakcdaljaaDoorWLast
import Derived.Test.YteehmhakcdaljaaDoorWTab
import Derived.Test.YteehmhakcdaljaaDoorWFour
import Derived.Test.YteehmhakcdaljaaDoorWQPut
import Derived.Test.YteehmhakcdaljaaDoorWApart
import Derived.Test.YteehmhakcdaljaaDoorWArr
import Derived.Test.YteehmhakcdaljaaDoorWZeros
import Derived.Test.YteehmhakcdaljaaDoorWFoot
import Derived.Test.YteehmhakcdaljaaDoorWKept
import Derived.Test.YteehmhakcdaljaaDoorWShare
import Derived.Test.YteehmhakcdaljaaDoorWN
import Derived.Test.YteehmhakcdaljaaDoorWFootNe
import Derived.Test.YteehmhakcdaljaaDoorWAt
import Derived.Test.YteehmhakcdaljaaDoorWEqStruct
import Derived.Test.YteehmhakcdaljaaDoorWRepsOne
import Derived.Test.YteehmhakcdaljaaDoorWInv
import Derived.Test.YteehmhakcdaljaaDoorWInvWords
import Derived.Test.YteehmhakcdaljaaDoorWGuard
import Derived.Test.YteehmhakcdaljaaDoorWNEv
import Derived.Test.YteehmhakcdaljaaDoorWMore
namespace Go.Proofs.YteehmhakcdaljaaDoor.Sp
open Go.RowKit Go.Proofs.YteehmhakcdaljaaDoorW.PrintWords Go.Proofs.YteehmhakcdaljaaDoorW.PrintLast Go.Proofs.YteehmhakcdaljaaDoorW.PrintMore
attribute [local go_sem] max2_int min2_int max_two min_two max_three min_three max_four min_four   -- for this text's walks alone
set_option linter.unusedVariables false
set_option linter.unusedSimpArgs false



def errW : Option Int → Value
  | none => .nilIface
  | some c => .iface 0 (.int .i64 c)
theorem errW_none : errW none = .nilIface := rfl
theorem errW_some (c : Int) : errW (some c) = .iface 0 (.int .i64 c) := rfl

theorem info5 : (Tryd.prog.info? 5).map (fun i => (i.zero, i.size, i.bytes)) = some (some (.int .u8 0), 1, 1) := by kernel_rfl
-- the values' own types

end Go.Proofs.YteehmhakcdaljaaDoor.Sp
