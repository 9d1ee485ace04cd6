/- Joined by a program of mine from texts of this claim: Gv. -/
import Derived.Test.YtldfejbmdonaoaaDoorY42
namespace Go.Proofs.YtldfejbmdonaoaaDoor.Gv
open Go.RowKit YtldfejbmdonaoaaDoorW.PrintWords YtldfejbmdonaoaaDoorW.PrintLast YtldfejbmdonaoaaDoorW.PrintMore Tp Te Gp
set_option linter.unusedVariables false
set_option linter.unusedSimpArgs false
theorem cell_b {w w' : World} (hb : Below w.drew.heap.size w.drew w') {a : Addr} {v : Value} (hc : w.cell? a = some v) : w'.cell? a = some v := (hb.cell (World.block_lt_of_cell? w a hc)).trans hc
theorem frozen_b {w w' : World} (hb : Below w.drew.heap.size w.drew w') {a : Addr} {v : Value} (hc : w.cell? a = some v) (hf : w.frozen? a = false) : w'.frozen? a = false := (hb.frozen (World.block_lt_of_cell? w a hc)).trans hf
end Go.Proofs.YtldfejbmdonaoaaDoor.Gv