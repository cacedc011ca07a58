/-
  No cell of these rows narrows 'for every input' (looked for: loops, veiled, ifaces, maps, wideKeys, modest, calm, conditions, laid).
  DERIVED. THE GIVEN ROWS OF THIS SEAT. 1 by the template 'for every input the law returns true; each argument reads behind the call as it read before'; 0 by the template 'total and deterministic' (their statements: YbulkdcggFmtTotals.lean).
  GIVEN WITH THE SEED: the statements are not yours to turn. If you find one false, say at which input.
  Laid BY PROGRAM, IN A SANDBOX (cutbox-rows.mjs): the forced cells as the released guide's own fill.sh prints them over the translation 3d33592b5804f9ce… (all of the seat's roots in one cut). By AI agents, Wed Nov 11 2026. No macro, syntax, notation, axiom, sorry.
-/
import Derived.Test.YbulkdcggFmtChecked
import GoSem.Claim
import GoSem.ClaimJoined
import GoSem.ClaimMapViews
import Derived.JoinedTies
import Derived.KernelRfl
namespace Go.Proofs.YbulkdcggFmt
/- THE CELL 'sum', in the pinned program and in every row, IS THE sha256 OF THE DUMP (.gsa) THAT YbulkdcggFmtProg.lean LOADS. Nothing in Lean hashes anything: it is a label: what it is worth is what the hold of that sum in a sandbox is worth. -/
noncomputable def Ybaf.pinned : Pinned := { name := "ybulkdcggfmt", sum := "3d33592b5804f9ce371472b6521ada4e56226b3239cdadde11d9bad41e2a2139", checked := Ybaf.checked }
namespace Rows
def none {H : Type} : Left H := { results := [], args := [] }

/-- 'sim.LawS5180CScript': WHATEVER THE INPUT: true; the input reads as it did. -/
def lawS5180CScriptSpec : ChangeSpec := { name := "lawS5180CScript", fn := fun _ => fun
  | [d] => { results := [.lit (.bool true)], args := [d] }
  | _ => none }
def lawS5180CScriptRow : OpenClaim := { program := "ybulkdcggfmt", sum := "3d33592b5804f9ce371472b6521ada4e56226b3239cdadde11d9bad41e2a2139", func := "example.com/provingcell/provingcell/sim.LawS5180CScript", spec := "lawS5180CScript", stops := ["fmt.Sprintf"], inPlace := ["fmt.Sprintf", "internal/bytealg.MakeNoZero"], named := ["encoding/binary.BigEndian"], apart := false }
/-- NO THEOREM (fmt's text is open here; it may be false): for the released tool's asking of the row's closed facts alone. THE STATEMENT IS 'LawS5180CScriptToldSaid' (YbulkdcggFmtCards.lean). -/
def LawS5180CScriptFormAsk : Prop := lawS5180CScriptRow.holds Ybaf.pinned (OpenSpec.ofChange lawS5180CScriptSpec)

/-- ITS FALSE NEIGHBOUR: 'it returns false'. Refute it at one input. -/
def lawS5180CScriptWrong : ChangeSpec := { name := "lawS5180CScript", fn := fun _ => fun
  | [d] => { results := [.lit (.bool false)], args := [d] }
  | _ => none }
def LawS5180CScriptWrongFormAsk : Prop := lawS5180CScriptRow.holds Ybaf.pinned (OpenSpec.ofChange lawS5180CScriptWrong)

end Rows
end Go.Proofs.YbulkdcggFmt
