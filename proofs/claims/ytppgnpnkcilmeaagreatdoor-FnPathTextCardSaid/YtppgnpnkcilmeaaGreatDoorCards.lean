/-
  DERIVED. GIVEN WITH THE SEED: THE CARDS: each row of YtppgnpnkcilmeaaGreatDoorRows.lean that lists a variable, with what it lists TIED to the program's text (the seventh form; the later family's looks); each row that meets fmt, with fmt's text TOLD by the authors' own Lean function (tested against real Go, not proved from fmt's source: count such statements apart). THE CARD IS WHAT COUNTS. Prove the row's statement (the work); the ties are given (YtppgnpnkcilmeaaGreatDoorTie.lean); close each card by the builder's one call (the guide's Derived/Test/ToyasCard.lean, 'card_holds'). Laid BY PROGRAM, IN A SANDBOX (cutbox-door.mjs). By AI agents, Wed Nov 11 2026. No macro, syntax, notation, axiom, sorry.
-/
import Derived.Test.YtppgnpnkcilmeaaGreatDoorRows
import GoSem.ClaimSeven
namespace Go.Proofs.YtppgnpnkcilmeaaGreatDoor
namespace Rows

/-- THE TIED CARD OF 'laws.FnPathText'. -/
def fnPathTextCard : Claim7 := { stood := { row := fnPathTextRow, standIns := [], harness := (true, "aec14018e92d4ee05e20c19f560c9a35f4f020659a6a0d7408c1af688d23b50c"), looks := true }, kinds := [], alts := [], laidByText := true, laidKinds := [.data, .data, .data, .sentinel, .sentinel, .sentinel, .sentinel, .sentinel], laidTests := true, laidLooks := .later }
def FnPathTextCardSaid : Prop := Claim7.holds Tryz.pinned (.plain (OpenSpec.ofChange fnPathTextSpec)) fnPathTextCard

/-- THE SECOND FORM's CARD OF 'laws.FnPathText'. -/
def fnPathTextUptoCard : Claim7 := { stood := { row := fnPathTextUptoRow, standIns := [], harness := (true, "aec14018e92d4ee05e20c19f560c9a35f4f020659a6a0d7408c1af688d23b50c"), looks := true }, kinds := [], alts := [], laidByText := true, laidKinds := [.data, .data, .data, .sentinel, .sentinel, .sentinel, .sentinel, .sentinel], laidTests := true, laidLooks := .later }
def FnPathTextUptoCardSaid : Prop := Claim7.holds Tryz.pinned (.plain (OpenSpec.upto fnPathTextSpec)) fnPathTextUptoCard
end Rows
end Go.Proofs.YtppgnpnkcilmeaaGreatDoor
