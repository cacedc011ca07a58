/-
  WHAT THE LISTED VARIABLE GIVES: the sentinel's cell; the witness: the heap that the door's own run leaves.
-/
import Derived.Test.YbulkdceqDoorTrip
import Derived.Test.YbulkdceqDoorTie
import Derived.ChangeSame
import Derived.ChangeVars
import Derived.JoinedOf
import Derived.RowKit
import Derived.RowKitTokens
import Derived.LaidLaws
import Derived.LaidHandle
import Derived.LaidMore
import Derived.Stop.LaidErr
import Derived.Stop.Joined
import Derived.OpenShut
import Derived.ChangeOld
namespace Go.Proofs.YbulkdceqDoor
open Go.ChangeShapes Go.WideShapes Go.ChangeAt Go.RowKit

theorem own : ownKnob Ybad.prog.godebug = none := by kernel_rfl
theorem laidOut : laidOutB Ybad.prog = true := by kernel_rfl
/-- the variable's name -/
def vn : String := (Rows.lawS5177BRoundTripSpec.vars).headD default
theorem vn_vars : Rows.lawS5177BRoundTripSpec.vars = [vn] := rfl
theorem vn_global : Ybad.prog.globalNamed vn = some 0 := by kernel_rfl
theorem vn_type : (Ybad.prog.globals[0]?).map (·.type) = some 30 := by kernel_rfl
theorem cells69 : Ybad.prog.cellsOf 69 = 1 := by kernel_rfl
theorem cells9 : Ybad.prog.cellsOf 9 = 1 := by kernel_rfl
/-- the name of errors.New's own type, as the row lists it -/
def en : String := match (Rows.laid_example_com_quorumweave_quorumweave_internal_node_errFrame : DataW Unit) with | .iface nm _ => nm | _ => default
theorem en_star (u : TypeId) (h : Ybad.prog.typeName? 3 u = some en) : u = 49 := by
  have e : en = String.singleton '*' ++ "errors.errorString" := by decide
  rw [e] at h
  exact typeName_ptr_named (nm := "errors.errorString") (by kernel_rfl) (by kernel_rfl) (by decide) u h

/-- WHAT THE CONDITION GIVES A WALK: the sentinel. -/
theorem sentinel_of {W : World} (h : laidMetH Ybad.prog Rows.lawS5177BRoundTripRow.laid W) :
    ∃ a : Addr, W.var? Ybad.prog vn = some #[.iface 49 (.pointer (some a))] ∧ W.cell? ⟨0, 0, none⟩ = some (.iface 49 (.pointer (some a))) := by
  have h' : laidMet Ybad.prog ((vn, .iface en (.ptr (.agg [.lit (.string [109, 97, 108, 102, 111, 114, 109, 101, 100, 32, 102, 114, 97, 109, 101])]))) :: []) W := h
  obtain ⟨a, s, hv, _⟩ := laid_sentinel h' vn_global vn_type Ybad.underlying30 en_star Ybad.underlying49 Ybad.underlying69 rfl rfl Ybad.underlying9 cells69 cells9
  exact ⟨a, hv, by simpa using World.var?_cell vn_global hv 0⟩

theorem door_met (os : Os) (args : Array Value) : laidMetH Ybad.prog Rows.lawS5177BRoundTripRow.laid ((World.doorLaid Ybad.prog 400 os).forCall (fun _ _ => 0) ⟨#[], args, []⟩).memory :=
  laidMetH_of_parts3 (fuel := 8) (laidMet_of_run' 8 (by kernel_rfl) (by kernel_rfl)) (by kernel_rfl) (by kernel_rfl)
end Go.Proofs.YbulkdceqDoor
