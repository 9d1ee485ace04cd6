/-
  DERIVED. GIVEN WITH THE SEED: THE CARDS: each row of YtldfejbmdonaoaaDoorRows.lean that lists a variable, with what it lists TIED to the program's text (the seventh form; the later family's looks); each row that meets fmt, with fmt's text TOLD by the authors' own Lean function (tested against real Go, not proved from fmt's source: count such statements apart). THE CARD IS WHAT COUNTS. Prove the row's statement (the work); the ties are given (YtldfejbmdonaoaaDoorTie.lean); close each card by the builder's one call (the guide's Derived/Test/ToyasCard.lean, 'card_holds'). Laid BY PROGRAM, IN A SANDBOX (cutbox-door.mjs). By AI agents, Wed Nov 11 2026. No macro, syntax, notation, axiom, sorry.
-/
import Derived.Test.YtldfejbmdonaoaaDoorRows
import GoSem.ClaimSeven
namespace Go.Proofs.YtldfejbmdonaoaaDoor
namespace Rows

/-- THE TIED CARD OF 'laws.FnExactParse'. -/
def fnExactParseCard : Claim7 := { stood := { row := fnExactParseRow, standIns := [], harness := (true, "ff1704296477a77d884ef124959643e1c5c6eb9b9fcd75d6770826139bb9052b"), looks := true }, kinds := [], alts := [], laidByText := true, laidKinds := [.data, .data, .widerDeep, .widerDeep, .data, .data, .data, .data, .data, .sentinel, .sentinel, .pinned, .pinned], laidTests := true, laidLooks := .later }
def FnExactParseCardSaid : Prop := Claim7.holds Tryd.pinned (.plain (OpenSpec.ofChange fnExactParseSpec)) fnExactParseCard

/-- THE TIED CARD OF 'laws.FnExactFloat'. -/
def fnExactFloatCard : Claim7 := { stood := { row := fnExactFloatRow, standIns := [], harness := (true, "ff1704296477a77d884ef124959643e1c5c6eb9b9fcd75d6770826139bb9052b"), looks := true }, kinds := [], alts := [], laidByText := true, laidKinds := [.data, .data, .widerDeep, .widerDeep, .data, .data, .data, .data, .data, .sentinel, .sentinel, .pinned, .pinned], laidTests := true, laidLooks := .later }
def FnExactFloatCardSaid : Prop := Claim7.holds Tryd.pinned (.plain (OpenSpec.ofChange fnExactFloatSpec)) fnExactFloatCard

/-- THE TIED CARD OF 'laws.FnExactUint'. -/
def fnExactUintCard : Claim7 := { stood := { row := fnExactUintRow, standIns := [], harness := (true, "ff1704296477a77d884ef124959643e1c5c6eb9b9fcd75d6770826139bb9052b"), looks := true }, kinds := [], alts := [], laidByText := true, laidKinds := [.data, .data, .widerDeep, .widerDeep, .data, .data, .data, .data, .data, .sentinel, .sentinel, .pinned, .pinned], laidTests := true, laidLooks := .later }
def FnExactUintCardSaid : Prop := Claim7.holds Tryd.pinned (.plain (OpenSpec.ofChange fnExactUintSpec)) fnExactUintCard

/-- THE TIED CARD OF 'laws.FnExactLines'. -/
def fnExactLinesCard : Claim7 := { stood := { row := fnExactLinesRow, standIns := [], harness := (true, "ff1704296477a77d884ef124959643e1c5c6eb9b9fcd75d6770826139bb9052b"), looks := true }, kinds := [], alts := [], laidByText := true, laidKinds := [.data, .data, .widerDeep, .widerDeep, .data, .data, .data, .data, .data, .sentinel, .sentinel, .data, .pinned, .pinned], laidTests := true, laidLooks := .later }
def FnExactLinesCardSaid : Prop := Claim7.holds Tryd.pinned (.plain (OpenSpec.ofChange fnExactLinesSpec)) fnExactLinesCard

/-- THE SECOND FORM's CARD OF 'laws.FnExactParse'. -/
def fnExactParseUptoCard : Claim7 := { stood := { row := fnExactParseUptoRow, standIns := [], harness := (true, "ff1704296477a77d884ef124959643e1c5c6eb9b9fcd75d6770826139bb9052b"), looks := true }, kinds := [], alts := [], laidByText := true, laidKinds := [.data, .data, .widerDeep, .widerDeep, .data, .data, .data, .data, .data, .sentinel, .sentinel, .pinned, .pinned], laidTests := true, laidLooks := .later }
def FnExactParseUptoCardSaid : Prop := Claim7.holds Tryd.pinned (.plain (OpenSpec.upto fnExactParseSpec)) fnExactParseUptoCard

/-- THE SECOND FORM's CARD OF 'laws.FnExactFloat'. -/
def fnExactFloatUptoCard : Claim7 := { stood := { row := fnExactFloatUptoRow, standIns := [], harness := (true, "ff1704296477a77d884ef124959643e1c5c6eb9b9fcd75d6770826139bb9052b"), looks := true }, kinds := [], alts := [], laidByText := true, laidKinds := [.data, .data, .widerDeep, .widerDeep, .data, .data, .data, .data, .data, .sentinel, .sentinel, .pinned, .pinned], laidTests := true, laidLooks := .later }
def FnExactFloatUptoCardSaid : Prop := Claim7.holds Tryd.pinned (.plain (OpenSpec.upto fnExactFloatSpec)) fnExactFloatUptoCard

/-- THE SECOND FORM's CARD OF 'laws.FnExactUint'. -/
def fnExactUintUptoCard : Claim7 := { stood := { row := fnExactUintUptoRow, standIns := [], harness := (true, "ff1704296477a77d884ef124959643e1c5c6eb9b9fcd75d6770826139bb9052b"), looks := true }, kinds := [], alts := [], laidByText := true, laidKinds := [.data, .data, .widerDeep, .widerDeep, .data, .data, .data, .data, .data, .sentinel, .sentinel, .pinned, .pinned], laidTests := true, laidLooks := .later }
def FnExactUintUptoCardSaid : Prop := Claim7.holds Tryd.pinned (.plain (OpenSpec.upto fnExactUintSpec)) fnExactUintUptoCard

/-- THE SECOND FORM's CARD OF 'laws.FnExactLines'. -/
def fnExactLinesUptoCard : Claim7 := { stood := { row := fnExactLinesUptoRow, standIns := [], harness := (true, "ff1704296477a77d884ef124959643e1c5c6eb9b9fcd75d6770826139bb9052b"), looks := true }, kinds := [], alts := [], laidByText := true, laidKinds := [.data, .data, .widerDeep, .widerDeep, .data, .data, .data, .data, .data, .sentinel, .sentinel, .data, .pinned, .pinned], laidTests := true, laidLooks := .later }
def FnExactLinesUptoCardSaid : Prop := Claim7.holds Tryd.pinned (.plain (OpenSpec.upto fnExactLinesSpec)) fnExactLinesUptoCard
end Rows
end Go.Proofs.YtldfejbmdonaoaaDoor
