/-
  No cell of these rows narrows 'for every input' (looked for: loops, veiled, ifaces, maps, wideKeys, modest, calm, conditions, laid).
  DERIVED. THE GIVEN ROWS OF THIS SEAT. 1 by the template 'for every input the law returns true; each argument reads behind the call as it read before'; 0 by the template 'total and deterministic' (their statements: YbulkdckoTotals.lean).
  GIVEN WITH THE SEED: the statements are not yours to turn. If you find one false, say at which input.
  Laid BY PROGRAM, IN A SANDBOX (cutbox-rows.mjs): the forced cells as the released guide's own fill.sh prints them over the translation a1a5152797771c45… (all of the seat's roots in one cut). By AI agents, Wed Nov 11 2026. No macro, syntax, notation, axiom, sorry.
-/
import Derived.Test.YbulkdckoChecked
import GoSem.Claim
import GoSem.ClaimJoined
import GoSem.ClaimMapViews
import Derived.JoinedTies
import Derived.KernelRfl
namespace Go.Proofs.Ybulkdcko
/- THE CELL 'sum', in the pinned program and in every row, IS THE sha256 OF THE DUMP (.gsa) THAT YbulkdckoProg.lean LOADS. Nothing in Lean hashes anything: it is a label: what it is worth is what the hold of that sum in a sandbox is worth. -/
noncomputable def Yba.pinned : Pinned := { name := "ybulkdcko", sum := "a1a5152797771c4596af10bb06cc652febef84cc3f180fab76121d9113ee4986", checked := Yba.checked }
namespace Rows
def none {H : Type} : Left H := { results := [], args := [] }

/-- 'store.LawS5188BAgrees': WHATEVER THE INPUT: true; the input reads as it did. -/
def lawS5188BAgreesSpec : ChangeSpec := { name := "lawS5188BAgrees", fn := fun _ => fun
  | [d1, d2] => { results := [.lit (.bool true)], args := [d1, d2] }
  | _ => none }
def lawS5188BAgreesRow : OpenClaim := { program := "ybulkdcko", sum := "a1a5152797771c4596af10bb06cc652febef84cc3f180fab76121d9113ee4986", func := "example.com/floodpath/floodpath/pkg/store.LawS5188BAgrees", spec := "lawS5188BAgrees", inPlace := ["slices.overlaps[example.com/floodpath/floodpath/pkg/store.block]"], unfollowed := true, recurses := true, apart := false }
def LawS5188BAgreesSaid : Prop := lawS5188BAgreesRow.holds Yba.pinned (OpenSpec.ofChange lawS5188BAgreesSpec)

/-- ITS FALSE NEIGHBOUR: 'it returns false'. Refute it at one input. -/
def lawS5188BAgreesWrong : ChangeSpec := { name := "lawS5188BAgrees", fn := fun _ => fun
  | [d1, d2] => { results := [.lit (.bool false)], args := [d1, d2] }
  | _ => none }
def LawS5188BAgreesWrongFalsely : Prop := lawS5188BAgreesRow.holds Yba.pinned (OpenSpec.ofChange lawS5188BAgreesWrong)

end Rows
end Go.Proofs.Ybulkdcko
