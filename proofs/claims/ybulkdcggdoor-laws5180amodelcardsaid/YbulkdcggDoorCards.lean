/-
  DERIVED. GIVEN WITH THE SEED: THE CARDS: each row of YbulkdcggDoorRows.lean that lists a variable, with what it lists TIED to the program's text (the seventh form; the later family's looks); each row that meets fmt, with fmt's text TOLD by the authors' own Lean function (tested against real Go, not proved from fmt's source: count such statements apart). THE CARD IS WHAT COUNTS. Prove the row's statement (the work); the ties are given (YbulkdcggDoorTie.lean); close each card by the builder's one call (the guide's Derived/Test/ToyasCard.lean, 'card_holds'). Laid BY PROGRAM, IN A SANDBOX (cutbox-door.mjs). By AI agents, Wed Nov 11 2026. No macro, syntax, notation, axiom, sorry.
-/
import Derived.Test.YbulkdcggDoorRows
import GoSem.ClaimSeven
namespace Go.Proofs.YbulkdcggDoor
namespace Rows

/-- THE TIED CARD OF 'pcap.LawS5180AModel'. -/
def lawS5180AModelCard : Claim7 := { stood := { row := lawS5180AModelRow, standIns := [], harness := (true, "0bd93f82cc6a499dde5a05cad5a4bef4def47f1232804cd443f5d1923b0530ae"), looks := false }, kinds := [], alts := [], laidByText := true, laidKinds := [.called, .called, .zero], laidTests := true, laidLooks := .later }
def LawS5180AModelCardSaid : Prop := Claim7.holds Ybad.pinned (.plain (OpenSpec.ofChange lawS5180AModelSpec)) lawS5180AModelCard

/-- THE TIED CARD OF 'pcap.LawS5180AVerify'. -/
def lawS5180AVerifyCard : Claim7 := { stood := { row := lawS5180AVerifyRow, standIns := [], harness := (true, "0bd93f82cc6a499dde5a05cad5a4bef4def47f1232804cd443f5d1923b0530ae"), looks := false }, kinds := [], alts := [], laidByText := true, laidKinds := [.called, .called, .zero], laidTests := true, laidLooks := .later }
def LawS5180AVerifyCardSaid : Prop := Claim7.holds Ybad.pinned (.plain (OpenSpec.ofChange lawS5180AVerifySpec)) lawS5180AVerifyCard
end Rows
end Go.Proofs.YbulkdcggDoor
