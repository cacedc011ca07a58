/-
  NARROWER THAN 'FOR EVERY INPUT', by the rows' own cells (each row's printed sentence says how): LawS5180AModel: laid · LawS5180AVerify: laid.
  DERIVED. THE GIVEN ROWS OF THIS SEAT. 2 by the template 'for every input the law returns true; each argument reads behind the call as it read before'; 0 by the template 'total and deterministic' (their statements: YbulkdcggDoorTotals.lean).
  GIVEN WITH THE SEED: the statements are not yours to turn. If you find one false, say at which input.
  Laid BY PROGRAM, IN A SANDBOX (cutbox-rows.mjs): the forced cells as the released guide's own fill.sh prints them over the translation 342a6dee05845704… (all of the seat's roots in one cut). By AI agents, Wed Nov 11 2026. No macro, syntax, notation, axiom, sorry.
-/
import Derived.Test.YbulkdcggDoorChecked
import GoSem.Claim
import GoSem.ClaimJoined
import GoSem.ClaimMapViews
import Derived.JoinedTies
import Derived.KernelRfl
namespace Go.Proofs.YbulkdcggDoor
/- THE CELL 'sum', in the pinned program and in every row, IS THE sha256 OF THE DUMP (.gsa) THAT YbulkdcggDoorProg.lean LOADS. Nothing in Lean hashes anything: it is a label: what it is worth is what the hold of that sum in a sandbox is worth. -/
noncomputable def Ybad.pinned : Pinned := { name := "ybulkdcggdoor", sum := "342a6dee05845704315459e282a18f603a3fd04f133623aaa975658c424f7cc1", checked := Ybad.checked }
namespace Rows
def none {H : Type} : Left H := { results := [], args := [] }

/- WHAT THE LISTED PACKAGE-LEVEL VARIABLES READ AS WHEN THE CALL BEGINS. Each datum BY PROGRAM (the guide's laid-datum.mjs) off the statement by which the dump's own 'gosem.cut.vars' lays the variable. In a bare row this is a premise. The card (YbulkdcggDoorCards.lean) ties it to the program's text. -/
def laid_net_netip_z4 {H : Type} : DataW H := .agg [.ptr (.agg [.lit (.bool false), .lit (.string [])])]
def laid_net_netip_z6noz {H : Type} : DataW H := .agg [.ptr (.agg [.lit (.bool true), .lit (.string [])])]
def laid_net_netip_z0 {H : Type} : DataW H := .agg [.nil]

/-- 'pcap.LawS5180AModel': WHATEVER THE INPUT: true; the input reads as it did. -/
def lawS5180AModelSpec : ChangeSpec := { name := "lawS5180AModel", fn := fun _ => fun
  | [d1, d2, d3, d4, d5] => { results := [.lit (.bool true)], args := [d1, d2, d3, d4, d5] }
  | _ => none }
def lawS5180AModelRow : OpenClaim := { program := "ybulkdcggdoor", sum := "342a6dee05845704315459e282a18f603a3fd04f133623aaa975658c424f7cc1", func := "example.com/provingcell/provingcell/pcap.LawS5180AModel", spec := "lawS5180AModel", named := ["net/netip.z4", "net/netip.z6noz", "net/netip.z0", "encoding/binary.BigEndian"], apart := false, laid := [("net/netip.z4", laid_net_netip_z4), ("net/netip.z6noz", laid_net_netip_z6noz), ("net/netip.z0", laid_net_netip_z0)] }
def LawS5180AModelSaid : Prop := lawS5180AModelRow.holds Ybad.pinned (OpenSpec.ofChange lawS5180AModelSpec)

/-- ITS FALSE NEIGHBOUR: 'it returns false'. Refute it at one input. -/
def lawS5180AModelWrong : ChangeSpec := { name := "lawS5180AModel", fn := fun _ => fun
  | [d1, d2, d3, d4, d5] => { results := [.lit (.bool false)], args := [d1, d2, d3, d4, d5] }
  | _ => none }
def LawS5180AModelWrongFalsely : Prop := lawS5180AModelRow.holds Ybad.pinned (OpenSpec.ofChange lawS5180AModelWrong)

/-- 'pcap.LawS5180AVerify': WHATEVER THE INPUT: true; the input reads as it did. -/
def lawS5180AVerifySpec : ChangeSpec := { name := "lawS5180AVerify", fn := fun _ => fun
  | [d1, d2, d3, d4, d5, d6] => { results := [.lit (.bool true)], args := [d1, d2, d3, d4, d5, d6] }
  | _ => none }
def lawS5180AVerifyRow : OpenClaim := { program := "ybulkdcggdoor", sum := "342a6dee05845704315459e282a18f603a3fd04f133623aaa975658c424f7cc1", func := "example.com/provingcell/provingcell/pcap.LawS5180AVerify", spec := "lawS5180AVerify", named := ["net/netip.z4", "net/netip.z6noz", "net/netip.z0", "encoding/binary.BigEndian"], apart := false, laid := [("net/netip.z4", laid_net_netip_z4), ("net/netip.z6noz", laid_net_netip_z6noz), ("net/netip.z0", laid_net_netip_z0)] }
def LawS5180AVerifySaid : Prop := lawS5180AVerifyRow.holds Ybad.pinned (OpenSpec.ofChange lawS5180AVerifySpec)

/-- ITS FALSE NEIGHBOUR: 'it returns false'. Refute it at one input. -/
def lawS5180AVerifyWrong : ChangeSpec := { name := "lawS5180AVerify", fn := fun _ => fun
  | [d1, d2, d3, d4, d5, d6] => { results := [.lit (.bool false)], args := [d1, d2, d3, d4, d5, d6] }
  | _ => none }
def LawS5180AVerifyWrongFalsely : Prop := lawS5180AVerifyRow.holds Ybad.pinned (OpenSpec.ofChange lawS5180AVerifyWrong)

end Rows
end Go.Proofs.YbulkdcggDoor
