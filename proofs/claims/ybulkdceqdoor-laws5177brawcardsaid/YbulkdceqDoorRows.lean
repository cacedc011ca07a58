/-
  NARROWER THAN 'FOR EVERY INPUT', by the rows' own cells (each row's printed sentence says how): LawS5177BRoundTrip: ifaces, laid · LawS5177BRaw: ifaces, laid.
  DERIVED. THE GIVEN ROWS OF THIS SEAT. 2 by the template 'for every input the law returns true; each argument reads behind the call as it read before'; 0 by the template 'total and deterministic' (their statements: YbulkdceqDoorTotals.lean).
  GIVEN WITH THE SEED: the statements are not yours to turn. If you find one false, say at which input.
  Laid BY PROGRAM, IN A SANDBOX (cutbox-rows.mjs): the forced cells as the released guide's own fill.sh prints them over the translation 41f29c7e1bce1a6e… (all of the seat's roots in one cut). By AI agents, Wed Nov 11 2026. No macro, syntax, notation, axiom, sorry.
-/
import Derived.Test.YbulkdceqDoorChecked
import GoSem.Claim
import GoSem.ClaimJoined
import GoSem.ClaimMapViews
import Derived.JoinedTies
import Derived.KernelRfl
namespace Go.Proofs.YbulkdceqDoor
/- THE CELL 'sum', in the pinned program and in every row, IS THE sha256 OF THE DUMP (.gsa) THAT YbulkdceqDoorProg.lean LOADS. Nothing in Lean hashes anything: it is a label: what it is worth is what the hold of that sum in a sandbox is worth. -/
noncomputable def Ybad.pinned : Pinned := { name := "ybulkdceqdoor", sum := "41f29c7e1bce1a6e1d398ff3fca94922a7bb19ed1461dbf3188ca2583cc394fd", checked := Ybad.checked }
namespace Rows
def none {H : Type} : Left H := { results := [], args := [] }

/- WHAT THE LISTED PACKAGE-LEVEL VARIABLES READ AS WHEN THE CALL BEGINS. Each datum BY PROGRAM (the guide's laid-datum.mjs) off the statement by which the dump's own 'gosem.cut.vars' lays the variable. In a bare row this is a premise. The card (YbulkdceqDoorCards.lean) ties it to the program's text. -/
def laid_example_com_quorumweave_quorumweave_internal_node_errFrame {H : Type} : DataW H := .iface "*errors.errorString" (.ptr (.agg [.lit (.string [109, 97, 108, 102, 111, 114, 109, 101, 100, 32, 102, 114, 97, 109, 101])]))

/-- 'node.LawS5177BRoundTrip': WHATEVER THE INPUT: true; the input reads as it did. -/
def lawS5177BRoundTripSpec : ChangeSpec := { name := "lawS5177BRoundTrip", vars := ["example.com/quorumweave/quorumweave/internal/node.errFrame"], fn := fun _ => fun
  | [d1, d2, d3, d4, d5, d6, d7, g1] => { results := [.lit (.bool true)], args := [d1, d2, d3, d4, d5, d6, d7], vars := [g1] }
  | _ => none }
def lawS5177BRoundTripRow : OpenClaim := { program := "ybulkdceqdoor", sum := "41f29c7e1bce1a6e1d398ff3fca94922a7bb19ed1461dbf3188ca2583cc394fd", func := "example.com/quorumweave/quorumweave/internal/node.LawS5177BRoundTrip", spec := "lawS5177BRoundTrip", named := ["example.com/quorumweave/quorumweave/internal/node.errFrame"], ifaces := true, apart := false, laid := [("example.com/quorumweave/quorumweave/internal/node.errFrame", laid_example_com_quorumweave_quorumweave_internal_node_errFrame)] }
def LawS5177BRoundTripSaid : Prop := lawS5177BRoundTripRow.holds Ybad.pinned (OpenSpec.ofChange lawS5177BRoundTripSpec)

/-- ITS FALSE NEIGHBOUR: 'it returns false'. Refute it at one input. -/
def lawS5177BRoundTripWrong : ChangeSpec := { name := "lawS5177BRoundTrip", vars := ["example.com/quorumweave/quorumweave/internal/node.errFrame"], fn := fun _ => fun
  | [d1, d2, d3, d4, d5, d6, d7, g1] => { results := [.lit (.bool false)], args := [d1, d2, d3, d4, d5, d6, d7], vars := [g1] }
  | _ => none }
def LawS5177BRoundTripWrongFalsely : Prop := lawS5177BRoundTripRow.holds Ybad.pinned (OpenSpec.ofChange lawS5177BRoundTripWrong)

/-- 'node.LawS5177BRaw': WHATEVER THE INPUT: true; the input reads as it did. -/
def lawS5177BRawSpec : ChangeSpec := { name := "lawS5177BRaw", vars := ["example.com/quorumweave/quorumweave/internal/node.errFrame"], fn := fun _ => fun
  | [d1, d2, g1] => { results := [.lit (.bool true)], args := [d1, d2], vars := [g1] }
  | _ => none }
def lawS5177BRawRow : OpenClaim := { program := "ybulkdceqdoor", sum := "41f29c7e1bce1a6e1d398ff3fca94922a7bb19ed1461dbf3188ca2583cc394fd", func := "example.com/quorumweave/quorumweave/internal/node.LawS5177BRaw", spec := "lawS5177BRaw", unfollowed := true, recurses := true, named := ["example.com/quorumweave/quorumweave/internal/node.errFrame"], ifaces := true, apart := false, laid := [("example.com/quorumweave/quorumweave/internal/node.errFrame", laid_example_com_quorumweave_quorumweave_internal_node_errFrame)] }
def LawS5177BRawSaid : Prop := lawS5177BRawRow.holds Ybad.pinned (OpenSpec.ofChange lawS5177BRawSpec)

/-- ITS FALSE NEIGHBOUR: 'it returns false'. Refute it at one input. -/
def lawS5177BRawWrong : ChangeSpec := { name := "lawS5177BRaw", vars := ["example.com/quorumweave/quorumweave/internal/node.errFrame"], fn := fun _ => fun
  | [d1, d2, g1] => { results := [.lit (.bool false)], args := [d1, d2], vars := [g1] }
  | _ => none }
def LawS5177BRawWrongFalsely : Prop := lawS5177BRawRow.holds Ybad.pinned (OpenSpec.ofChange lawS5177BRawWrong)

end Rows
end Go.Proofs.YbulkdceqDoor
