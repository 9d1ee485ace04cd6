/- Joined by a program of mine from texts of this claim: Lo. -/
import Derived.Test.YtldfejbmdonaoaaGreatDoorZA8
namespace Go.Proofs.YtldfejbmdonaoaaGreatDoor.Lo
open Go.RowKit YtldfejbmdonaoaaGreatDoorW.PrintWords YtldfejbmdonaoaaGreatDoorW.PrintLast YtldfejbmdonaoaaGreatDoorW.PrintMore Dm Dw Dr Dl Ds Dt Df
set_option linter.unusedVariables false
set_option linter.unusedSimpArgs false
set_option maxRecDepth 100000 in
theorem lower_walk (c : Int) (w : World) : Calls Tryz.prog 104 #[.int .u8 c] w fun e w' => e = .returned (.int .u8 (bits .or .u8 c 32)) ∧ w = w' := by
  go_enter Tryz.func104, Tryz.ntmps104
  go_wp2
  go_ret
  exact ⟨rfl, rfl⟩
end Go.Proofs.YtldfejbmdonaoaaGreatDoor.Lo