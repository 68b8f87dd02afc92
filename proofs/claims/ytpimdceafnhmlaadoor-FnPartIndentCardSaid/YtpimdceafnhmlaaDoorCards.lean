/-
  DERIVED. GIVEN WITH THE SEED: THE CARDS: each row of YtpimdceafnhmlaaDoorRows.lean that lists a variable, with what it lists TIED to the program's text (the seventh form; the later family's looks); each row that meets fmt, with fmt's text TOLD by the authors' own Lean function (tested against real Go, not proved from fmt's source: count such statements apart). THE CARD IS WHAT COUNTS. Prove the row's statement (the work); the ties are given (YtpimdceafnhmlaaDoorTie.lean); close each card by the builder's one call (the guide's Derived/Test/ToyasCard.lean, 'card_holds'). Laid BY PROGRAM, IN A SANDBOX (cutbox-door.mjs). By AI agents, Wed Nov 11 2026. No macro, syntax, notation, axiom, sorry.
-/
import Derived.Test.YtpimdceafnhmlaaDoorRows
import GoSem.ClaimSeven
namespace Go.Proofs.YtpimdceafnhmlaaDoor
namespace Rows

/-- THE TIED CARD OF 'laws.FnPartQuotesWith'. -/
def fnPartQuotesWithCard : Claim7 := { stood := { row := fnPartQuotesWithRow, standIns := [], harness := (true, "69fb831f7e3f03cb1148ffeffb8b0f31ec5b4bcd414ba3fba0978d26b8b9e72d"), looks := true }, kinds := [], alts := [], laidByText := true, laidKinds := [.data, .pinned, .pinned, .pinned, .pinned, .pinned], laidTests := true, laidLooks := .later }
def FnPartQuotesWithCardSaid : Prop := Claim7.holds Tryd.pinned (.plain (OpenSpec.ofChange fnPartQuotesWithSpec)) fnPartQuotesWithCard

/-- THE TIED CARD OF 'laws.FnPartIndent'. -/
def fnPartIndentCard : Claim7 := { stood := { row := fnPartIndentRow, standIns := [], harness := (true, "69fb831f7e3f03cb1148ffeffb8b0f31ec5b4bcd414ba3fba0978d26b8b9e72d"), looks := true }, kinds := [], alts := [], laidByText := true, laidKinds := [.data, .data, .data, .sentinel, .sentinel], laidTests := true, laidLooks := .later }
def FnPartIndentCardSaid : Prop := Claim7.holds Tryd.pinned (.plain (OpenSpec.ofChange fnPartIndentSpec)) fnPartIndentCard

/-- THE SECOND FORM's CARD OF 'laws.FnPartQuotesWith'. -/
def fnPartQuotesWithUptoCard : Claim7 := { stood := { row := fnPartQuotesWithUptoRow, standIns := [], harness := (true, "69fb831f7e3f03cb1148ffeffb8b0f31ec5b4bcd414ba3fba0978d26b8b9e72d"), looks := true }, kinds := [], alts := [], laidByText := true, laidKinds := [.data, .pinned, .pinned, .pinned, .pinned, .pinned], laidTests := true, laidLooks := .later }
def FnPartQuotesWithUptoCardSaid : Prop := Claim7.holds Tryd.pinned (.plain (OpenSpec.upto fnPartQuotesWithSpec)) fnPartQuotesWithUptoCard

/-- THE SECOND FORM's CARD OF 'laws.FnPartIndent'. -/
def fnPartIndentUptoCard : Claim7 := { stood := { row := fnPartIndentUptoRow, standIns := [], harness := (true, "69fb831f7e3f03cb1148ffeffb8b0f31ec5b4bcd414ba3fba0978d26b8b9e72d"), looks := true }, kinds := [], alts := [], laidByText := true, laidKinds := [.data, .data, .data, .sentinel, .sentinel], laidTests := true, laidLooks := .later }
def FnPartIndentUptoCardSaid : Prop := Claim7.holds Tryd.pinned (.plain (OpenSpec.upto fnPartIndentSpec)) fnPartIndentUptoCard
end Rows
end Go.Proofs.YtpimdceafnhmlaaDoor
