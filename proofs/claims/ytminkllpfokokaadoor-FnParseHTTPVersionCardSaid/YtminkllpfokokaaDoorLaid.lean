/-
  What the listed package-level variables give to the walks: the variable ErrSyntax holds an error value. No condition.
-/
import Derived.Test.YtminkllpfokokaaDoorVer
import Derived.ProofKit
import Derived.LaidMore
import Derived.LaidLaws
import Derived.OpenShut
import Derived.ShutString
import Derived.SizedLaws
import Derived.Below
import Derived.Stop.Joined
import Derived.Stop.LaidErr
import Derived.SevenTiedAt
namespace Go.Proofs.YtminkllpfokokaaDoor
open Go.ChangeShapes Go.WideShapes Go.RowKit

theorem own : ownKnob Tryd.prog.godebug = none := by kernel_rfl
theorem laidOut : laidOutB Tryd.prog = true := by kernel_rfl
theorem gSyn : Tryd.prog.globalNamed "strconv.ErrSyntax" = some 0 := by kernel_rfl
theorem tSyn : (Tryd.prog.globals[0]?).map (·.type) = some 34 := by kernel_rfl
theorem cells51 : Tryd.prog.cellsOf 51 = 1 := by kernel_rfl
theorem cells9 : Tryd.prog.cellsOf 9 = 1 := by kernel_rfl
theorem star : "*" ++ "errors.errorString" = "*errors.errorString" := by decide
theorem row49 (u : TypeId) (h : Tryd.prog.typeName? 3 u = some "*errors.errorString") : u = 49 :=
  typeName_ptr_named (nm := "errors.errorString") (by rw [star]; kernel_rfl) (by kernel_rfl) (by decide) u (by rw [star]; exact h)

theorem glob_of {W : World} (h : laidMetH Tryd.prog Rows.fnVersionBackRow.laid W) : Glob W := by
  rw [MakeChecks.laidMetH_plain _ _ _ (by kernel_rfl)] at h
  have h4 := h.tail.tail.tail.tail
  obtain ⟨a, s, hv, _⟩ := laid_sentinel h4 gSyn tSyn Tryd.underlying34 row49 Tryd.underlying49 Tryd.underlying51 rfl rfl Tryd.underlying9 cells51 cells9
  exact ⟨_, _, by simpa using World.var?_cell gSyn hv 0⟩

/-- the heap that the program's own initialisers leave meets the rows' condition -/
theorem door_met (os : Os) (args : Array Value) : laidMetH Tryd.prog Rows.fnVersionBackRow.laid ((World.doorLaid Tryd.prog 62 os).forCall (fun _ _ => 0) ⟨#[], args, []⟩).memory :=
  laidMetH_of_parts3 (fuel := 8) (laidMet_of_run' 8 (by kernel_rfl) (by kernel_rfl)) (by kernel_rfl) (by kernel_rfl)
end Go.Proofs.YtminkllpfokokaaDoor
