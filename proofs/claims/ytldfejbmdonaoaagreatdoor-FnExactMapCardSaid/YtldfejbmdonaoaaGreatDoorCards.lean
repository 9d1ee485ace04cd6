/-
  DERIVED. GIVEN WITH THE SEED: THE CARDS: each row of YtldfejbmdonaoaaGreatDoorRows.lean that lists a variable, with what it lists TIED to the program's text (the seventh form; the later family's looks); each row that meets fmt, with fmt's text TOLD by the authors' own Lean function (tested against real Go, not proved from fmt's source: count such statements apart). THE CARD IS WHAT COUNTS. Prove the row's statement (the work); the ties are given (YtldfejbmdonaoaaGreatDoorTie.lean); close each card by the builder's one call (the guide's Derived/Test/ToyasCard.lean, 'card_holds'). Laid BY PROGRAM, IN A SANDBOX (cutbox-door.mjs). By AI agents, Wed Nov 11 2026. No macro, syntax, notation, axiom, sorry.
-/
import Derived.Test.YtldfejbmdonaoaaGreatDoorRows
import GoSem.ClaimSeven
namespace Go.Proofs.YtldfejbmdonaoaaGreatDoor
namespace Rows

/-- THE TIED CARD OF 'laws.FnExactLess'. -/
def fnExactLessCard : Claim7 := { stood := { row := fnExactLessRow, standIns := [], harness := (true, "5f55148f20b1e5f34bf8907326dab852a5fb91aba92c5c2fb0732596f2dc01a1"), looks := true }, kinds := [], alts := [], laidByText := true, laidKinds := [.data, .data, .widerDeep, .widerDeep, .data, .data, .data, .data, .data, .sentinel, .sentinel, .pinned, .pinned], laidTests := true, laidLooks := .later }
def FnExactLessCardSaid : Prop := Claim7.holds Tryz.pinned (.plain (OpenSpec.ofChange fnExactLessSpec)) fnExactLessCard

/-- THE TIED CARD OF 'laws.FnExactMap'. -/
def fnExactMapCard : Claim7 := { stood := { row := fnExactMapRow, standIns := [], harness := (true, "5f55148f20b1e5f34bf8907326dab852a5fb91aba92c5c2fb0732596f2dc01a1"), looks := true }, kinds := [], alts := [], laidByText := true, laidKinds := [.data, .data, .widerDeep, .widerDeep, .data, .data, .data, .data, .data, .sentinel, .sentinel, .pinned, .pinned], laidTests := true, laidLooks := .later }
def FnExactMapCardSaid : Prop := Claim7.holds Tryz.pinned (.plain (OpenSpec.ofChange fnExactMapSpec)) fnExactMapCard

/-- THE TIED CARD OF 'laws.FnExactArray'. -/
def fnExactArrayCard : Claim7 := { stood := { row := fnExactArrayRow, standIns := [], harness := (true, "5f55148f20b1e5f34bf8907326dab852a5fb91aba92c5c2fb0732596f2dc01a1"), looks := true }, kinds := [], alts := [], laidByText := true, laidKinds := [.data, .data, .widerDeep, .widerDeep, .data, .data, .data, .data, .data, .sentinel, .sentinel, .pinned, .pinned], laidTests := true, laidLooks := .later }
def FnExactArrayCardSaid : Prop := Claim7.holds Tryz.pinned (.plain (OpenSpec.ofChange fnExactArraySpec)) fnExactArrayCard

/-- THE TIED CARD OF 'laws.FnAppendParse'. -/
def fnAppendParseCard : Claim7 := { stood := { row := fnAppendParseRow, standIns := [], harness := (true, "5f55148f20b1e5f34bf8907326dab852a5fb91aba92c5c2fb0732596f2dc01a1"), looks := true }, kinds := [], alts := [], laidByText := true, laidKinds := [.data, .data, .widerDeep, .widerDeep, .data, .data, .data, .data, .data, .data, .sentinel, .sentinel, .data, .pinned, .pinned, .pinned], laidTests := true, laidLooks := .later }
def FnAppendParseCardSaid : Prop := Claim7.holds Tryz.pinned (.plain (OpenSpec.ofChange fnAppendParseSpec)) fnAppendParseCard

/-- THE SECOND FORM's CARD OF 'laws.FnExactLess'. -/
def fnExactLessUptoCard : Claim7 := { stood := { row := fnExactLessUptoRow, standIns := [], harness := (true, "5f55148f20b1e5f34bf8907326dab852a5fb91aba92c5c2fb0732596f2dc01a1"), looks := true }, kinds := [], alts := [], laidByText := true, laidKinds := [.data, .data, .widerDeep, .widerDeep, .data, .data, .data, .data, .data, .sentinel, .sentinel, .pinned, .pinned], laidTests := true, laidLooks := .later }
def FnExactLessUptoCardSaid : Prop := Claim7.holds Tryz.pinned (.plain (OpenSpec.upto fnExactLessSpec)) fnExactLessUptoCard

/-- THE SECOND FORM's CARD OF 'laws.FnExactMap'. -/
def fnExactMapUptoCard : Claim7 := { stood := { row := fnExactMapUptoRow, standIns := [], harness := (true, "5f55148f20b1e5f34bf8907326dab852a5fb91aba92c5c2fb0732596f2dc01a1"), looks := true }, kinds := [], alts := [], laidByText := true, laidKinds := [.data, .data, .widerDeep, .widerDeep, .data, .data, .data, .data, .data, .sentinel, .sentinel, .pinned, .pinned], laidTests := true, laidLooks := .later }
def FnExactMapUptoCardSaid : Prop := Claim7.holds Tryz.pinned (.plain (OpenSpec.upto fnExactMapSpec)) fnExactMapUptoCard

/-- THE SECOND FORM's CARD OF 'laws.FnExactArray'. -/
def fnExactArrayUptoCard : Claim7 := { stood := { row := fnExactArrayUptoRow, standIns := [], harness := (true, "5f55148f20b1e5f34bf8907326dab852a5fb91aba92c5c2fb0732596f2dc01a1"), looks := true }, kinds := [], alts := [], laidByText := true, laidKinds := [.data, .data, .widerDeep, .widerDeep, .data, .data, .data, .data, .data, .sentinel, .sentinel, .pinned, .pinned], laidTests := true, laidLooks := .later }
def FnExactArrayUptoCardSaid : Prop := Claim7.holds Tryz.pinned (.plain (OpenSpec.upto fnExactArraySpec)) fnExactArrayUptoCard

/-- THE SECOND FORM's CARD OF 'laws.FnAppendParse'. -/
def fnAppendParseUptoCard : Claim7 := { stood := { row := fnAppendParseUptoRow, standIns := [], harness := (true, "5f55148f20b1e5f34bf8907326dab852a5fb91aba92c5c2fb0732596f2dc01a1"), looks := true }, kinds := [], alts := [], laidByText := true, laidKinds := [.data, .data, .widerDeep, .widerDeep, .data, .data, .data, .data, .data, .data, .sentinel, .sentinel, .data, .pinned, .pinned, .pinned], laidTests := true, laidLooks := .later }
def FnAppendParseUptoCardSaid : Prop := Claim7.holds Tryz.pinned (.plain (OpenSpec.upto fnAppendParseSpec)) fnAppendParseUptoCard
end Rows
end Go.Proofs.YtldfejbmdonaoaaGreatDoor
