/- FnEntryTold: the statement of its row. -/
import Derived.Test.YtocjfcgailkfjaaGreatDoorMR2
import Derived.Test.YtocjfcgailkfjaaGreatDoorMR4

set_option linter.unusedVariables false
set_option linter.unusedSimpArgs false
set_option linter.unusedSectionVars false

section
namespace Go.Proofs.YtocjfcgailkfjaaGreatDoor
open Go.ChangeShapes Go.WideShapes Go.ChangeAt Go.RowKit

theorem entry_instance : Tryz.f3.isInstance Tryz.prog Rows.fnEntryToldRow.origin Rows.fnEntryToldRow.targs := of_decide_eq_true (by kernel_rfl)
theorem entry_wrapper : Tryz.f3.isWrapper Tryz.prog Rows.fnEntryToldRow.wrapper Rows.fnEntryToldRow.mainSum := by
  unfold Func.isWrapper
  first | (rw [if_pos (by decide +kernel)]; kernel_rfl) | (rw [if_neg (by decide +kernel)]; exact ⟨rfl, rfl⟩)
theorem entry_named : Tryz.prog.funcNamed Rows.fnEntryToldRow.func = some 3 := by kernel_rfl

theorem entry_holds : Rows.FnEntryToldSaid :=
  OpenClaim.holds_of_wide 3 Tryz.f3 rfl rfl rfl rfl rfl rfl rfl ⟨rfl, rfl, rfl, rfl, rfl⟩ rfl rfl rfl rfl rfl entry_named Tryz.func3 entry_facts entry_instance entry_wrapper
    (fun os started H enc _ => entry_lifted os started H enc)

end Go.Proofs.YtocjfcgailkfjaaGreatDoor
end
