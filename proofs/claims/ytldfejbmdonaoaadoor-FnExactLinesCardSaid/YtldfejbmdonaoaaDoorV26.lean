/- Joined by a program of mine from texts of this claim: Lo. -/
import Derived.Test.YtldfejbmdonaoaaDoorV25
namespace Go.Proofs.YtldfejbmdonaoaaDoor.Lo
open Go.RowKit YtldfejbmdonaoaaDoorW.PrintWords YtldfejbmdonaoaaDoorW.PrintLast YtldfejbmdonaoaaDoorW.PrintMore Dm Dw Dr Dl Ds Dt Df
set_option linter.unusedVariables false
set_option linter.unusedSimpArgs false
set_option maxRecDepth 100000 in
theorem lower_walk (c : Int) (w : World) : Calls Tryd.prog 84 #[.int .u8 c] w fun e w' => e = .returned (.int .u8 (bits .or .u8 c 32)) ∧ w = w' := by
  go_enter Tryd.func84, Tryd.ntmps84
  go_wp2
  go_ret
  exact ⟨rfl, rfl⟩
end Go.Proofs.YtldfejbmdonaoaaDoor.Lo