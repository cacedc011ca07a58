/-
  DERIVED. GIVEN WITH THE SEED: THE CARDS: each row of YbulkdceqDoorRows.lean that lists a variable, with what it lists TIED to the program's text (the seventh form; the later family's looks); each row that meets fmt, with fmt's text TOLD by the authors' own Lean function (tested against real Go, not proved from fmt's source: count such statements apart). THE CARD IS WHAT COUNTS. Prove the row's statement (the work); the ties are given (YbulkdceqDoorTie.lean); close each card by the builder's one call (the guide's Derived/Test/ToyasCard.lean, 'card_holds'). Laid BY PROGRAM, IN A SANDBOX (cutbox-door.mjs). By AI agents, Wed Nov 11 2026. No macro, syntax, notation, axiom, sorry.
-/
import Derived.Test.YbulkdceqDoorRows
import GoSem.ClaimSeven
namespace Go.Proofs.YbulkdceqDoor
namespace Rows

/-- THE TIED CARD OF 'node.LawS5177BRoundTrip'. -/
def lawS5177BRoundTripCard : Claim7 := { stood := { row := lawS5177BRoundTripRow, standIns := [], harness := (true, "be0db7e107d649886c88b85daad727681e50d6fb8096b8b855dd4e3f0e8b5742"), looks := true }, kinds := [], alts := [], laidByText := true, laidKinds := [.sentinel], laidTests := true, laidLooks := .later }
def LawS5177BRoundTripCardSaid : Prop := Claim7.holds Ybad.pinned (.plain (OpenSpec.ofChange lawS5177BRoundTripSpec)) lawS5177BRoundTripCard

/-- THE TIED CARD OF 'node.LawS5177BRaw'. -/
def lawS5177BRawCard : Claim7 := { stood := { row := lawS5177BRawRow, standIns := [], harness := (true, "be0db7e107d649886c88b85daad727681e50d6fb8096b8b855dd4e3f0e8b5742"), looks := true }, kinds := [], alts := [], laidByText := true, laidKinds := [.sentinel], laidTests := true, laidLooks := .later }
def LawS5177BRawCardSaid : Prop := Claim7.holds Ybad.pinned (.plain (OpenSpec.ofChange lawS5177BRawSpec)) lawS5177BRawCard
end Rows
end Go.Proofs.YbulkdceqDoor
