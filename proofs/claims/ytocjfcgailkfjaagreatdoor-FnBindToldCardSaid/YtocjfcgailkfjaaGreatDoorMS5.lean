/- FnBindTold: the statement of its row. -/
import Derived.Test.YtocjfcgailkfjaaGreatDoorMS2
import Derived.Test.YtocjfcgailkfjaaGreatDoorMS4

set_option linter.unusedVariables false
set_option linter.unusedSimpArgs false
set_option linter.unusedSectionVars false

section
namespace Go.Proofs.YtocjfcgailkfjaaGreatDoor
open Go.ChangeShapes Go.WideShapes Go.ChangeAt Go.RowKit

theorem bind_instance : Tryz.f4.isInstance Tryz.prog Rows.fnBindToldRow.origin Rows.fnBindToldRow.targs := of_decide_eq_true (by kernel_rfl)
theorem bind_wrapper : Tryz.f4.isWrapper Tryz.prog Rows.fnBindToldRow.wrapper Rows.fnBindToldRow.mainSum := by
  unfold Func.isWrapper
  first | (rw [if_pos (by decide +kernel)]; kernel_rfl) | (rw [if_neg (by decide +kernel)]; exact ⟨rfl, rfl⟩)
theorem bind_named : Tryz.prog.funcNamed Rows.fnBindToldRow.func = some 4 := by kernel_rfl

theorem bind_holds : Rows.FnBindToldSaid :=
  OpenClaim.holds_of_wide 4 Tryz.f4 rfl rfl rfl rfl rfl rfl rfl ⟨rfl, rfl, rfl, rfl, rfl⟩ rfl rfl rfl rfl rfl bind_named Tryz.func4 bind_facts bind_instance bind_wrapper
    (fun os started H enc _ => bind_lifted os started H enc)

end Go.Proofs.YtocjfcgailkfjaaGreatDoor
end
