/- What the listed sentinels ErrMaxDepth and ErrNilStack give the walks; the witness's world is the door's own. -/
import Derived.Test.YbulkbgykDoorRows
import Derived.Test.YbulkbgykDoorStack
import Derived.ProofKit
import Derived.LaidMore
import Derived.LaidLaws
import Derived.LaidHandle
import Derived.OpenShut
import Derived.Stop.Joined
import Derived.Stop.LaidErr
import Derived.WalkSmall
namespace Go.Proofs.YbulkbgykDoor
open Go.ChangeShapes Go.WideShapes Go.ChangeAt Go.RowKit
set_option linter.unusedVariables false

theorem own : ownKnob Ybad.prog.godebug = none := by kernel_rfl

/-- the variables' names, taken from the given specification -/
def nMax : String := Rows.lawS2896CRoomSpec.vars.getD 0 ""
def nNil : String := Rows.lawS2896CRoomSpec.vars.getD 1 ""
theorem gMax : Ybad.prog.globalNamed nMax = some 4 := by kernel_rfl
theorem gNil : Ybad.prog.globalNamed nNil = some 3 := by kernel_rfl
theorem tMax : (Ybad.prog.globals[4]?).map (·.type) = some 68 := by kernel_rfl
theorem tNil : (Ybad.prog.globals[3]?).map (·.type) = some 68 := by kernel_rfl
theorem cells126 : Ybad.prog.cellsOf 126 = 1 := by kernel_rfl
theorem cells9 : Ybad.prog.cellsOf 9 = 1 := by kernel_rfl

/-- the dynamic type's name, as the datum spells it -/
def ifaceName : DataW Unit → String
  | .iface s _ => s
  | _ => ""
def eName : String := ifaceName Rows.laid_example_com_scopewell_scopewell_ErrMaxDepth
theorem row106 (u : TypeId) (h : Ybad.prog.typeName? 3 u = some eName) : u = 106 :=
  typeName_ptr_named (nm := "errors.errorString") (by kernel_rfl) (by kernel_rfl) (by decide) u (h.trans (by kernel_rfl))

abbrev laidD : List (String × DataW Unit) := Rows.lawS2896CRoomRow.laid
theorem laidNil_eq : Rows.lawS2896CNilRow.laid = laidD := rfl
theorem laidEdge_eq : Rows.lawS2896CEdgeRow.laid = laidD := rfl

/-- The door's own heap meets the condition. -/
theorem door_met (os : Os) (args : Array Value) : laidMetH Ybad.prog laidD ((World.doorLaid Ybad.prog 104 os).forCall (fun _ _ => 0) ⟨#[], args, []⟩).memory :=
  laidMetH_of_parts3 (fuel := 8) (laidMet_of_run' 8 (by kernel_rfl) (by kernel_rfl)) (by kernel_rfl) (by kernel_rfl)

theorem of_laid {W : World} (h : laidMetH Ybad.prog laidD W) : ∃ a0 a1 : Addr,
    W.var? Ybad.prog nMax = some #[.iface 106 (.pointer (some a0))] ∧ W.var? Ybad.prog nNil = some #[.iface 106 (.pointer (some a1))] := by
  rw [MakeChecks.laidMetH_plain _ _ _ (by kernel_rfl)] at h
  obtain ⟨a0, s0, hv0, _⟩ := laid_sentinel (n := nMax) (nm := eName) (tp := 106) h gMax tMax Ybad.underlying68 row106 Ybad.underlying106 Ybad.underlying126 rfl rfl Ybad.underlying9 cells126 cells9
  obtain ⟨a1, s1, hv1, _⟩ := laid_sentinel (n := nNil) (nm := eName) (tp := 106) (laidMet.tail h) gNil tNil Ybad.underlying68 row106 Ybad.underlying106 Ybad.underlying126 rfl rfl Ybad.underlying9 cells126 cells9
  exact ⟨a0, a1, hv0, hv1⟩
end Go.Proofs.YbulkbgykDoor
