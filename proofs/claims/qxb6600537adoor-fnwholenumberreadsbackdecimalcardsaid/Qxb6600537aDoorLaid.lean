import Derived.Test.Qxb6600537aDoorWhole
import Derived.ProofKit
import Derived.LaidMore
import Derived.Stop.Joined
import Derived.Stop.LaidErr
namespace Go.Proofs.Qxb6600537aDoor
open Go.ChangeShapes Go.WideShapes Go.ChangeAt Go.RowKit
set_option linter.unusedVariables false
set_option maxRecDepth 100000

theorem gES : Tryd.prog.globalNamed "strconv.ErrSyntax" = some 1 := by kernel_rfl
theorem gESType : (Tryd.prog.globals[1]?).map (·.type) = some 48 := by kernel_rfl
theorem gER : Tryd.prog.globalNamed "strconv.ErrRange" = some 2 := by kernel_rfl
theorem gERType : (Tryd.prog.globals[2]?).map (·.type) = some 48 := by kernel_rfl
theorem cells68 : Tryd.prog.cellsOf 68 = 1 := by kernel_rfl
theorem cells9 : Tryd.prog.cellsOf 9 = 1 := by kernel_rfl
/-- The name of the sentinels' dynamic type, as the row lists it. -/
def ptrName : String := match Rows.laid_strconv_ErrRange (H := Unit) with
  | .iface n _ => n
  | _ => "x"
/-- THE ONE ROW OF THAT NAME. -/
theorem row66 (u : TypeId) (h : Tryd.prog.typeName? 3 u = some ptrName) : u = 66 :=
  typeName_ptr_named (P := Tryd.prog) (nm := "errors.errorString") (by kernel_rfl) (by kernel_rfl) (by decide) u h

theorem errs_of_laid {W : World} (h : laidMetH Tryd.prog Rows.fnWholeNumberExactRow.laid W) : Errs W := by
  rw [MakeChecks.laidMetH_plain _ _ _ (by kernel_rfl)] at h
  have h3 := h.tail.tail.tail
  obtain ⟨a1, s1, hv1, -, -, -⟩ := laid_sentinel (nm := ptrName) h3 gER gERType Tryd.underlying48 row66 Tryd.underlying66 Tryd.underlying68 rfl rfl Tryd.underlying9 cells68 cells9
  obtain ⟨a0, s0, hv0, -, -, -⟩ := laid_sentinel (nm := ptrName) h3.tail gES gESType Tryd.underlying48 row66 Tryd.underlying66 Tryd.underlying68 rfl rfl Tryd.underlying9 cells68 cells9
  exact ⟨_, _, _, _, by have h0 := World.var?_cell gES hv0 0; simpa using h0, by have h0 := World.var?_cell gER hv1 0; simpa using h0⟩

/-- The door's own heap meets the condition. -/
theorem door_met (os : Os) (args : Array Value) : laidMetH Tryd.prog Rows.fnWholeNumberExactRow.laid ((World.doorLaid Tryd.prog 1000 os).forCall (fun _ _ => 0) ⟨#[], args, []⟩).memory :=
  laidMetH_of_parts3 (fuel := 8) (laidMet_of_run' 8 (by kernel_rfl) (by kernel_rfl)) (by kernel_rfl) (by kernel_rfl)
end Go.Proofs.Qxb6600537aDoor
