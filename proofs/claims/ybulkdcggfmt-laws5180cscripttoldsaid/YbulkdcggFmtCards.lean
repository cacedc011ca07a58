/-
  DERIVED. GIVEN WITH THE SEED: THE CARDS: each row of YbulkdcggFmtRows.lean that lists a variable, with what it lists TIED to the program's text (the seventh form; the later family's looks); each row that meets fmt, with fmt's text TOLD by the authors' own Lean function (tested against real Go, not proved from fmt's source: count such statements apart). THE CARD IS WHAT COUNTS. Prove the row's statement (the work); the ties are given (YbulkdcggFmtTie.lean); close each card by the builder's one call (the guide's Derived/Test/ToyasCard.lean, 'card_holds'). Laid BY PROGRAM, IN A SANDBOX (cutbox-door.mjs). By AI agents, Wed Nov 11 2026. No macro, syntax, notation, axiom, sorry.
-/
import Derived.Test.YbulkdcggFmtRows
import GoSem.ClaimSeven
namespace Go.Proofs.YbulkdcggFmt
namespace Rows

/-- THE TOLD CARD OF 'sim.LawS5180CScript'. -/
def lawS5180CScriptCard : Claim7 := { stood := { row := lawS5180CScriptRow, standIns := [], harness := (true, "52d187ea0e19683b8118e7c624f475c265849ab699e3cd33ac0eb31bd152f356"), looks := false }, told := true, goes := false }
def LawS5180CScriptToldSaid : Prop := Claim7.holds Ybaf.pinned (.plain (OpenSpec.ofChange lawS5180CScriptSpec)) lawS5180CScriptCard
/-- ITS FALSE NEIGHBOUR. Refute it at one input. -/
def LawS5180CScriptToldWrongFalsely : Prop := Claim7.holds Ybaf.pinned (.plain (OpenSpec.ofChange lawS5180CScriptWrong)) lawS5180CScriptCard
end Rows
end Go.Proofs.YbulkdcggFmt
