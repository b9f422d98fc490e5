import Derived.Test.Qxb6606397aDoorRows
import Derived.ProofKit
import Derived.LaidMore
import Derived.OpenShut
import Derived.Stop.Joined
import Derived.Stop.LaidErr
import Derived.SizedLaws
namespace Go.Proofs.Qxb6606397aDoor
open Go.ChangeShapes Go.WideShapes Go.ChangeAt Go.RowKit

theorem own : ownKnob Tryd.prog.godebug = none := by kernel_rfl
theorem gER : Tryd.prog.globalNamed "strconv.ErrRange" = some 1 := by kernel_rfl
theorem gERType : (Tryd.prog.globals[1]?).map (·.type) = some 35 := by kernel_rfl
theorem cells59 : Tryd.prog.cellsOf 59 = 1 := by kernel_rfl
theorem cells9 : Tryd.prog.cellsOf 9 = 1 := by kernel_rfl

/-- What the row's condition gives the walks: strconv.ErrRange holds an interface value that is not nil. -/
theorem of_laid {W : World} (h : laidMetH Tryd.prog Rows.fnPowerMatchesModelRow.laid W) : ∃ ev : Value, W.cell? ⟨1, 0, none⟩ = some ev ∧ ∃ te pe, ev = .iface te pe := by
  rw [MakeChecks.laidMetH_plain _ _ _ (by kernel_rfl)] at h
  obtain ⟨a, s, hv, -, -, -⟩ := laid_sentinel (laidMet.tail (laidMet.tail (laidMet.tail h))) gER gERType Tryd.underlying35
    (fun u hu => typeName_ptr_named (nm := "errors.errorString") (tp := 57) (by kernel_rfl) (by kernel_rfl) (by decide) u (hu.trans (congrArg some (by decide)))) Tryd.underlying57 Tryd.underlying59 rfl rfl Tryd.underlying9 cells59 cells9
  exact ⟨_, by have h0 := World.var?_cell gER hv 0; simpa using h0, _, _, rfl⟩

/-- The door's own heap meets the condition. -/
theorem door_met (os : Os) (args : Array Value) : laidMetH Tryd.prog Rows.fnPowerMatchesModelRow.laid ((World.doorLaid Tryd.prog 62 os).forCall (fun _ _ => 0) ⟨#[], args, []⟩).memory :=
  laidMetH_of_parts3 (fuel := 8) (laidMet_of_run' 8 (by kernel_rfl) (by kernel_rfl)) (by kernel_rfl) (by kernel_rfl)
end Go.Proofs.Qxb6606397aDoor
