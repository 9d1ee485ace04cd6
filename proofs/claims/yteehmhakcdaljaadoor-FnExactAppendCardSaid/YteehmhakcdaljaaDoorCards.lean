/-
  DERIVED. GIVEN WITH THE SEED: THE CARDS: each row of YteehmhakcdaljaaDoorRows.lean that lists a variable, with what it lists TIED to the program's text (the seventh form; the later family's looks); each row that meets fmt, with fmt's text TOLD by the authors' own Lean function (tested against real Go, not proved from fmt's source: count such statements apart). THE CARD IS WHAT COUNTS. Prove the row's statement (the work); the ties are given (YteehmhakcdaljaaDoorTie.lean); close each card by the builder's one call (the guide's Derived/Test/ToyasCard.lean, 'card_holds'). Laid BY PROGRAM, IN A SANDBOX (cutbox-door.mjs). By AI agents, Wed Nov 11 2026. No macro, syntax, notation, axiom, sorry.
-/
import Derived.Test.YteehmhakcdaljaaDoorRows
import GoSem.ClaimSeven
namespace Go.Proofs.YteehmhakcdaljaaDoor
namespace Rows

/-- THE TIED CARD OF 'laws.FnExactAppend'. -/
def fnExactAppendCard : Claim7 := { stood := { row := fnExactAppendRow, standIns := [], harness := (true, "0f92f003c36d1cd69869672ca9d7068717bf93aac9faaa0a53ad3f63641552f4"), looks := false }, kinds := [], alts := [], laidByText := true, laidKinds := [.data, .data, .pinned], laidTests := true, laidLooks := .later }
def FnExactAppendCardSaid : Prop := Claim7.holds Tryd.pinned (.plain (OpenSpec.ofChange fnExactAppendSpec)) fnExactAppendCard

/-- THE SECOND FORM's CARD OF 'laws.FnExactAppend'. -/
def fnExactAppendUptoCard : Claim7 := { stood := { row := fnExactAppendUptoRow, standIns := [], harness := (true, "0f92f003c36d1cd69869672ca9d7068717bf93aac9faaa0a53ad3f63641552f4"), looks := false }, kinds := [], alts := [], laidByText := true, laidKinds := [.data, .data, .pinned], laidTests := true, laidLooks := .later }
def FnExactAppendUptoCardSaid : Prop := Claim7.holds Tryd.pinned (.plain (OpenSpec.upto fnExactAppendSpec)) fnExactAppendUptoCard
end Rows
end Go.Proofs.YteehmhakcdaljaaDoor
