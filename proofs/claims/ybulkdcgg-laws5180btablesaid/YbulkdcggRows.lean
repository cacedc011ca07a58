/-
  No cell of these rows narrows 'for every input' (looked for: loops, veiled, ifaces, maps, wideKeys, modest, calm, conditions, laid).
  DERIVED. THE GIVEN ROWS OF THIS SEAT. 1 by the template 'for every input the law returns true; each argument reads behind the call as it read before'; 0 by the template 'total and deterministic' (their statements: YbulkdcggTotals.lean).
  GIVEN WITH THE SEED: the statements are not yours to turn. If you find one false, say at which input.
  Laid BY PROGRAM, IN A SANDBOX (cutbox-rows.mjs): the forced cells as the released guide's own fill.sh prints them over the translation 0e663cc5eefa7751… (all of the seat's roots in one cut). By AI agents, Wed Nov 11 2026. No macro, syntax, notation, axiom, sorry.
-/
import Derived.Test.YbulkdcggChecked
import GoSem.Claim
import GoSem.ClaimJoined
import GoSem.ClaimMapViews
import Derived.JoinedTies
import Derived.KernelRfl
namespace Go.Proofs.Ybulkdcgg
/- THE CELL 'sum', in the pinned program and in every row, IS THE sha256 OF THE DUMP (.gsa) THAT YbulkdcggProg.lean LOADS. Nothing in Lean hashes anything: it is a label: what it is worth is what the hold of that sum in a sandbox is worth. -/
noncomputable def Yba.pinned : Pinned := { name := "ybulkdcgg", sum := "0e663cc5eefa7751faaff11228d1007bb168ecdf336da4967ab3e63507fc731f", checked := Yba.checked }
namespace Rows
def none {H : Type} : Left H := { results := [], args := [] }

/-- 'sim.LawS5180BTable': WHATEVER THE INPUT: true; the input reads as it did. -/
def lawS5180BTableSpec : ChangeSpec := { name := "lawS5180BTable", fn := fun _ => fun
  | [d1, d2, d3, d4, d5] => { results := [.lit (.bool true)], args := [d1, d2, d3, d4, d5] }
  | _ => none }
def lawS5180BTableRow : OpenClaim := { program := "ybulkdcgg", sum := "0e663cc5eefa7751faaff11228d1007bb168ecdf336da4967ab3e63507fc731f", func := "example.com/provingcell/provingcell/sim.LawS5180BTable", spec := "lawS5180BTable", apart := false }
def LawS5180BTableSaid : Prop := lawS5180BTableRow.holds Yba.pinned (OpenSpec.ofChange lawS5180BTableSpec)

/-- ITS FALSE NEIGHBOUR: 'it returns false'. Refute it at one input. -/
def lawS5180BTableWrong : ChangeSpec := { name := "lawS5180BTable", fn := fun _ => fun
  | [d1, d2, d3, d4, d5] => { results := [.lit (.bool false)], args := [d1, d2, d3, d4, d5] }
  | _ => none }
def LawS5180BTableWrongFalsely : Prop := lawS5180BTableRow.holds Yba.pinned (OpenSpec.ofChange lawS5180BTableWrong)

end Rows
end Go.Proofs.Ybulkdcgg
