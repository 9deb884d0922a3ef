/-
  What the rows' listed variables give the walks, and the start that meets the list: the heap that the door's own run leaves.
-/
import Derived.Test.YbulkbbuwDoorLaws
import Derived.ProofKit
import Derived.LaidMore
import Derived.OpenShut
import Derived.Stop.Joined
import Derived.Stop.LaidErr
import Derived.Lib.LaidTab
import Derived.ShutString
import Derived.ChangeOld
namespace Go.Proofs.YbulkbbuwDoor
open Go.ChangeShapes Go.WideShapes Go.ChangeAt Go.RowKit

theorem own : ownKnob Ybad.prog.godebug = none := by kernel_rfl
theorem laidOut : laidOutB Ybad.prog = true := by kernel_rfl

/-- the list that all three rows bear. -/
abbrev laid5 : List (String × DataW Unit) := Rows.lawS2648ARoundTripRow.laid

/-- the type's name in the listed sentinels. -/
def nameIn (d : DataW Unit) : String := match d with
  | .iface n _ => n
  | _ => ""
def errName : String := nameIn Rows.laid_strconv_ErrSyntax

theorem gPow : Ybad.prog.globalNamed powName = some 0 := by kernel_rfl
theorem tPow : (Ybad.prog.globals[0]?).map (·.type) = some 52 := by kernel_rfl
theorem gSyn : Ybad.prog.globalNamed "strconv.ErrSyntax" = some 1 := by kernel_rfl
theorem tSyn : (Ybad.prog.globals[1]?).map (·.type) = some 33 := by kernel_rfl
theorem gRan : Ybad.prog.globalNamed "strconv.ErrRange" = some 2 := by kernel_rfl
theorem tRan : (Ybad.prog.globals[2]?).map (·.type) = some 33 := by kernel_rfl
theorem cells22 : Ybad.prog.cellsOf 22 = 1 := by kernel_rfl
theorem cells52 : Ybad.prog.cellsOf 52 = 20 := by kernel_rfl
theorem cells9 : Ybad.prog.cellsOf 9 = 1 := by kernel_rfl
theorem cells65 : Ybad.prog.cellsOf 65 = 1 := by kernel_rfl
theorem pow_datum : (Rows.laid_internal_strconv_uint64pow10 : DataW Unit) = Lib.tabData .u64 Lib.pow10Tab := by kernel_rfl

/-- The door's own heap meets the condition. -/
theorem door_met (os : Os) (args : Array Value) : laidMetH Ybad.prog laid5 ((World.doorLaid Ybad.prog 62 os).forCall (fun _ _ => 0) ⟨#[], args, []⟩).memory :=
  laidMetH_of_parts3 (fuel := 8) (laidMet_of_run' 8 (by kernel_rfl) (by kernel_rfl)) (by kernel_rfl) (by kernel_rfl)

theorem row63 (u : TypeId) (h : Ybad.prog.typeName? 3 u = some errName) : u = 63 :=
  typeName_ptr_named (nm := "errors.errorString") (by kernel_rfl) (by kernel_rfl) (by decide) u (h.trans (by kernel_rfl))

/-- WHAT THE LIST GIVES THE WALKS. -/
theorem of_laid {W : World} (h : laidMetH Ybad.prog laid5 W) : Vars W := by
  rw [MakeChecks.laidMetH_plain _ _ _ (by kernel_rfl)] at h
  have h2 : laidMet Ybad.prog ((powName, Rows.laid_internal_strconv_uint64pow10) :: [("strconv.ErrRange", Rows.laid_strconv_ErrRange), ("strconv.ErrSyntax", Rows.laid_strconv_ErrSyntax)]) W := h.tail.tail
  rw [pow_datum] at h2
  have hT := Lib.tabIs_of_head gPow tPow Ybad.underlying52 Ybad.underlying22 cells22 cells52 h2
  obtain ⟨a0, s0, hv0, -, -, -⟩ := laid_sentinel h2.tail gRan tRan Ybad.underlying33 row63 Ybad.underlying63 Ybad.underlying65 rfl rfl Ybad.underlying9 cells65 cells9
  obtain ⟨a1, s1, hv1, -, -, -⟩ := laid_sentinel h2.tail.tail gSyn tSyn Ybad.underlying33 row63 Ybad.underlying63 Ybad.underlying65 rfl rfl Ybad.underlying9 cells65 cells9
  exact ⟨hT, ⟨_, _, hv1⟩, ⟨_, _, hv0⟩⟩
end Go.Proofs.YbulkbbuwDoor
