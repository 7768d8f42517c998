/- What the listed variables give: io.EOF's cell; and the last step of a row whose walk leaves what there was as it was. -/
import Derived.Test.YtocjfcgailkfjaaGreatDoorMR0
import Derived.Test.YtocjfcgailkfjaaGreatDoorRows
import Derived.Stop.LaidErr
import Derived.OpenShut
import Derived.LaidMore
import Derived.Lay
import Derived.Stop.Joined

set_option linter.unusedVariables false
set_option linter.unusedSimpArgs false
set_option linter.unusedSectionVars false

section
namespace Go.Proofs.YtocjfcgailkfjaaGreatDoor
open Go.ChangeShapes Go.WideShapes Go.ChangeAt Go.RowKit

theorem own : ownKnob Tryz.prog.godebug = none := by kernel_rfl
theorem gEOF : Tryz.prog.globalNamed "io.EOF" = some 1 := by kernel_rfl
theorem tEOF : (Tryz.prog.globals[1]?).map (·.type) = some 92 := by kernel_rfl
theorem star : "*" ++ "errors.errorString" = "*errors.errorString" := by decide
theorem row310 (u : TypeId) (h : Tryz.prog.typeName? 3 u = some "*errors.errorString") : u = 310 :=
  typeName_ptr_named (nm := "errors.errorString") (by rw [star]; kernel_rfl) (by kernel_rfl) (by decide) u (by rw [star]; exact h)
theorem c312 : Tryz.prog.cellsOf 312 = 1 := by kernel_rfl
theorem laidOut : laidOutB Tryz.prog = true := by kernel_rfl

/-- The variables that the rows list. -/
def listed : List (String × DataW Unit) := Rows.fnEntryToldRow.laid

theorem eof_of {W : World} (h : laidMetH Tryz.prog Rows.fnEntryToldRow.laid W) : ∃ ea, W.cell? ⟨1, 0, none⟩ = some (.iface 310 (.pointer (some ea))) := by
  rw [MakeChecks.laidMetH_plain _ _ _ (by kernel_rfl)] at h
  obtain ⟨a, s, hv, _⟩ := laid_sentinel h.tail.tail.tail.tail.tail.tail.tail gEOF tEOF Tryz.underlying92 row310 Tryz.underlying310 Tryz.underlying312 rfl rfl Tryz.underlying9 c312 c9
  exact ⟨a, by simpa using World.var?_cell gEOF hv 0⟩

/-- The world in which the listed variables lie. -/
theorem met (os : Os) (args : Array Value) : laidMetH Tryz.prog Rows.fnEntryToldRow.laid ((World.laidAll Tryz.prog os Rows.fnEntryToldRow.laid).forCall (fun _ _ => 0) ⟨#[], args, []⟩).memory := by
  rw [MakeChecks.laidMetH_plain _ _ _ (by kernel_rfl)]
  exact laidMet_laidAll _ (by kernel_rfl) (by kernel_rfl)

end Go.Proofs.YtocjfcgailkfjaaGreatDoor
end
