/- FnControlForms: the statement of its row. -/
import Derived.Test.YtocjfcgailkfjaaGreatDoorMV2
import Derived.Test.YtocjfcgailkfjaaGreatDoorMV4

set_option linter.unusedVariables false
set_option linter.unusedSimpArgs false
set_option linter.unusedSectionVars false

section
namespace Go.Proofs.YtocjfcgailkfjaaGreatDoor
open Go.ChangeShapes Go.WideShapes Go.ChangeAt Go.RowKit

theorem ctlf_instance : Tryz.f6.isInstance Tryz.prog Rows.fnControlFormsRow.origin Rows.fnControlFormsRow.targs := of_decide_eq_true (by kernel_rfl)
theorem ctlf_wrapper : Tryz.f6.isWrapper Tryz.prog Rows.fnControlFormsRow.wrapper Rows.fnControlFormsRow.mainSum := by
  unfold Func.isWrapper
  first | (rw [if_pos (by decide +kernel)]; kernel_rfl) | (rw [if_neg (by decide +kernel)]; exact ⟨rfl, rfl⟩)
theorem ctlf_named : Tryz.prog.funcNamed Rows.fnControlFormsRow.func = some 6 := by kernel_rfl

theorem ctlf_holds : Rows.FnControlFormsSaid :=
  OpenClaim.holds_of_wide 6 Tryz.f6 rfl rfl rfl rfl rfl rfl rfl ⟨rfl, rfl, rfl, rfl, rfl⟩ rfl rfl rfl rfl rfl ctlf_named Tryz.func6 ctlf_facts ctlf_instance ctlf_wrapper
    (fun os started H enc _ => ctlf_lifted os started H enc)

end Go.Proofs.YtocjfcgailkfjaaGreatDoor
end
