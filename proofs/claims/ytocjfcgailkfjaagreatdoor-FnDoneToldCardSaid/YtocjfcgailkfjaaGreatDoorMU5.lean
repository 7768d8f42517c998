/- FnDoneTold: the statement of its row. -/
import Derived.Test.YtocjfcgailkfjaaGreatDoorMU2
import Derived.Test.YtocjfcgailkfjaaGreatDoorMU4

set_option linter.unusedVariables false
set_option linter.unusedSimpArgs false
set_option linter.unusedSectionVars false

section
namespace Go.Proofs.YtocjfcgailkfjaaGreatDoor
open Go.ChangeShapes Go.WideShapes Go.ChangeAt Go.RowKit

theorem done_instance : Tryz.f5.isInstance Tryz.prog Rows.fnDoneToldRow.origin Rows.fnDoneToldRow.targs := of_decide_eq_true (by kernel_rfl)
theorem done_wrapper : Tryz.f5.isWrapper Tryz.prog Rows.fnDoneToldRow.wrapper Rows.fnDoneToldRow.mainSum := by
  unfold Func.isWrapper
  first | (rw [if_pos (by decide +kernel)]; kernel_rfl) | (rw [if_neg (by decide +kernel)]; exact ⟨rfl, rfl⟩)
theorem done_named : Tryz.prog.funcNamed Rows.fnDoneToldRow.func = some 5 := by kernel_rfl

theorem done_holds : Rows.FnDoneToldSaid :=
  OpenClaim.holds_of_wide 5 Tryz.f5 rfl rfl rfl rfl rfl rfl rfl ⟨rfl, rfl, rfl, rfl, rfl⟩ rfl rfl rfl rfl rfl done_named Tryz.func5 done_facts done_instance done_wrapper
    (fun os started H enc _ => done_lifted os started H enc)

end Go.Proofs.YtocjfcgailkfjaaGreatDoor
end
