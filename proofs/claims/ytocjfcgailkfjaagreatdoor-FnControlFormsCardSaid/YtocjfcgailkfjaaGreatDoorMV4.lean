/- FnControlForms: the closed facts of its row. -/
import Derived.Test.YtocjfcgailkfjaaGreatDoorMR3
import Derived.Test.YtocjfcgailkfjaaGreatDoorRows
import Derived.JoinedOf

set_option linter.unusedVariables false
set_option linter.unusedSimpArgs false
set_option linter.unusedSectionVars false

section
namespace Go.Proofs.YtocjfcgailkfjaaGreatDoor
open Go.ChangeShapes Go.WideShapes Go.ChangeAt Go.RowKit

theorem cf1 : Rows.fnControlFormsRow.wf (OpenSpec.ofChange Rows.fnControlFormsSpec) = true := by kernel_rfl
theorem cf4 : Tryz.f6.params.all (Tryz.prog.readableRec ·) = true := by kernel_rfl
theorem cf5 : namedTie Tryz.prog Rows.fnControlFormsRow.named Rows.fnControlFormsSpec.vars = true := by kernel_rfl
theorem cf8 : (Rows.fnControlFormsRow.inPlace == Tryz.prog.inPlace 6) = true := by kernel_rfl
theorem cf9 : (Rows.fnControlFormsRow.unfollowed == Tryz.prog.unfollowed 6) = true := by kernel_rfl
theorem cf10 : (Rows.fnControlFormsRow.recurses == Tryz.prog.recurses 6) = true := by kernel_rfl
theorem cf11 : (Rows.fnControlFormsRow.named == Tryz.prog.varsNamed 6) = true := by kernel_rfl
theorem cf12 : (Rows.fnControlFormsRow.maps == (Tryz.f6.params.toList ++ Rows.fnControlFormsSpec.plain.varTypes Tryz.prog).any (Tryz.prog.mapsRec ·)) = true := by kernel_rfl
theorem cf13 : (Rows.fnControlFormsRow.ifaces == (Tryz.f6.params.toList ++ Rows.fnControlFormsSpec.plain.varTypes Tryz.prog).any (Tryz.prog.ifacesRec ·)) = true := by kernel_rfl
theorem cf14 : (Rows.fnControlFormsRow.mapsOut == Tryz.prog.mapsAmong Tryz.f6.resultTypes.toList) = true := by kernel_rfl
theorem cf15 : (Rows.fnControlFormsRow.loops == (Tryz.f6.params.toList ++ Rows.fnControlFormsSpec.plain.varTypes Tryz.prog).any (Tryz.prog.loopsFrom ·)) = true := by kernel_rfl
theorem cf16 : (Rows.fnControlFormsRow.wideKeys == (Tryz.f6.params.toList ++ Rows.fnControlFormsSpec.plain.varTypes Tryz.prog ++ Tryz.f6.resultTypes.toList).any (Tryz.prog.wideKeysFrom ·)) = true := by kernel_rfl
theorem cf17 : Rows.fnControlFormsSpec.vars.all (Tryz.prog.varReadable ·) = true := by kernel_rfl
theorem cf18 : Tryz.f6.resultTypes.all (fun t => Tryz.prog.readableRec t && decide (t < Tryz.prog.types.size)) = true := by kernel_rfl
theorem cf19 : (Rows.fnControlFormsRow.ifacesOut == Tryz.f6.resultTypes.toList.any (Tryz.prog.ifacesRec ·)) = true := by kernel_rfl
theorem cf20 : (Rows.fnControlFormsRow.loopsOut == Tryz.f6.resultTypes.toList.any (Tryz.prog.loopsFrom ·)) = true := by kernel_rfl
theorem cf26 : (Rows.fnControlFormsRow.pinned == Rows.fnControlFormsRow.pinnedBy) = true := by kernel_rfl
theorem cf27 : (Rows.fnControlFormsRow.veiled == (Tryz.f6.params.toList ++ Rows.fnControlFormsSpec.plain.varTypes Tryz.prog ++ Tryz.f6.resultTypes.toList).any (Tryz.prog.veiledRec ·)) = true := by kernel_rfl
theorem cf28 : Rows.fnControlFormsRow.veiledFits Tryz.prog Tryz.f6.params.toList (Tryz.f6.params.toList ++ Rows.fnControlFormsSpec.plain.varTypes Tryz.prog ++ Tryz.f6.resultTypes.toList) = true := by kernel_rfl

theorem ctlf_facts : joinedFacts Tryz.prog 6 Tryz.f6 Rows.fnControlFormsSpec Rows.fnControlFormsRow = true :=
  facts_of _ _ 6 _ ⟨rfl, rfl, rfl, rfl, rfl, rfl, rfl, rfl⟩ cf1 cf4 cf5 cf8 cf9 cf10 cf11 cf12 cf13 cf14 cf15 cf16 cf17 cf18 cf19 cf20 cf26 cf27 cf28

end Go.Proofs.YtocjfcgailkfjaaGreatDoor
end
