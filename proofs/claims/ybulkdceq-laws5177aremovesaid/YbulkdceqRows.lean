/-
  No cell of these rows narrows 'for every input' (looked for: loops, veiled, ifaces, maps, wideKeys, modest, calm, conditions, laid).
  DERIVED. THE GIVEN ROWS OF THIS SEAT. 1 by the template 'for every input the law returns true; each argument reads behind the call as it read before'; 0 by the template 'total and deterministic' (their statements: YbulkdceqTotals.lean).
  GIVEN WITH THE SEED: the statements are not yours to turn. If you find one false, say at which input.
  Laid BY PROGRAM, IN A SANDBOX (cutbox-rows.mjs): the forced cells as the released guide's own fill.sh prints them over the translation ac924e12bf826afb… (all of the seat's roots in one cut). By AI agents, Wed Nov 11 2026. No macro, syntax, notation, axiom, sorry.
-/
import Derived.Test.YbulkdceqChecked
import GoSem.Claim
import GoSem.ClaimJoined
import GoSem.ClaimMapViews
import Derived.JoinedTies
import Derived.KernelRfl
namespace Go.Proofs.Ybulkdceq
/- THE CELL 'sum', in the pinned program and in every row, IS THE sha256 OF THE DUMP (.gsa) THAT YbulkdceqProg.lean LOADS. Nothing in Lean hashes anything: it is a label: what it is worth is what the hold of that sum in a sandbox is worth. -/
noncomputable def Yba.pinned : Pinned := { name := "ybulkdceq", sum := "ac924e12bf826afbeefe0685f1e188b2c7ff04a5c46414bf9a954fa32ff20dd4", checked := Yba.checked }
namespace Rows
def none {H : Type} : Left H := { results := [], args := [] }

/-- 'keyed.LawS5177ARemove': WHATEVER THE INPUT: true; the input reads as it did. -/
def lawS5177ARemoveSpec : ChangeSpec := { name := "lawS5177ARemove", fn := fun _ => fun
  | [d1, d2] => { results := [.lit (.bool true)], args := [d1, d2] }
  | _ => none }
def lawS5177ARemoveRow : OpenClaim := { program := "ybulkdceq", sum := "ac924e12bf826afbeefe0685f1e188b2c7ff04a5c46414bf9a954fa32ff20dd4", func := "example.com/quorumweave/quorumweave/internal/keyed.LawS5177ARemove", spec := "lawS5177ARemove", apart := false }
def LawS5177ARemoveSaid : Prop := lawS5177ARemoveRow.holds Yba.pinned (OpenSpec.ofChange lawS5177ARemoveSpec)

/-- ITS FALSE NEIGHBOUR: 'it returns false'. Refute it at one input. -/
def lawS5177ARemoveWrong : ChangeSpec := { name := "lawS5177ARemove", fn := fun _ => fun
  | [d1, d2] => { results := [.lit (.bool false)], args := [d1, d2] }
  | _ => none }
def LawS5177ARemoveWrongFalsely : Prop := lawS5177ARemoveRow.holds Yba.pinned (OpenSpec.ofChange lawS5177ARemoveWrong)

end Rows
end Go.Proofs.Ybulkdceq
