/- FnEntryTold: the closed facts of its row. -/
import Derived.Test.YtocjfcgailkfjaaGreatDoorMR3
import Derived.Test.YtocjfcgailkfjaaGreatDoorRows
import Derived.JoinedOf

set_option linter.unusedVariables false
set_option linter.unusedSimpArgs false
set_option linter.unusedSectionVars false

section
namespace Go.Proofs.YtocjfcgailkfjaaGreatDoor
open Go.ChangeShapes Go.WideShapes Go.ChangeAt Go.RowKit

theorem ef1 : Rows.fnEntryToldRow.wf (OpenSpec.ofChange Rows.fnEntryToldSpec) = true := by kernel_rfl
theorem ef4 : Tryz.f3.params.all (Tryz.prog.readableRec ·) = true := by kernel_rfl
theorem ef5 : namedTie Tryz.prog Rows.fnEntryToldRow.named Rows.fnEntryToldSpec.vars = true := by kernel_rfl
theorem ef8 : (Rows.fnEntryToldRow.inPlace == Tryz.prog.inPlace 3) = true := by kernel_rfl
theorem ef9 : (Rows.fnEntryToldRow.unfollowed == Tryz.prog.unfollowed 3) = true := by kernel_rfl
theorem ef10 : (Rows.fnEntryToldRow.recurses == Tryz.prog.recurses 3) = true := by kernel_rfl
theorem ef11 : (Rows.fnEntryToldRow.named == Tryz.prog.varsNamed 3) = true := by kernel_rfl
theorem ef12 : (Rows.fnEntryToldRow.maps == (Tryz.f3.params.toList ++ Rows.fnEntryToldSpec.plain.varTypes Tryz.prog).any (Tryz.prog.mapsRec ·)) = true := by kernel_rfl
theorem ef13 : (Rows.fnEntryToldRow.ifaces == (Tryz.f3.params.toList ++ Rows.fnEntryToldSpec.plain.varTypes Tryz.prog).any (Tryz.prog.ifacesRec ·)) = true := by kernel_rfl
theorem ef14 : (Rows.fnEntryToldRow.mapsOut == Tryz.prog.mapsAmong Tryz.f3.resultTypes.toList) = true := by kernel_rfl
theorem ef15 : (Rows.fnEntryToldRow.loops == (Tryz.f3.params.toList ++ Rows.fnEntryToldSpec.plain.varTypes Tryz.prog).any (Tryz.prog.loopsFrom ·)) = true := by kernel_rfl
theorem ef16 : (Rows.fnEntryToldRow.wideKeys == (Tryz.f3.params.toList ++ Rows.fnEntryToldSpec.plain.varTypes Tryz.prog ++ Tryz.f3.resultTypes.toList).any (Tryz.prog.wideKeysFrom ·)) = true := by kernel_rfl
theorem ef17 : Rows.fnEntryToldSpec.vars.all (Tryz.prog.varReadable ·) = true := by kernel_rfl
theorem ef18 : Tryz.f3.resultTypes.all (fun t => Tryz.prog.readableRec t && decide (t < Tryz.prog.types.size)) = true := by kernel_rfl
theorem ef19 : (Rows.fnEntryToldRow.ifacesOut == Tryz.f3.resultTypes.toList.any (Tryz.prog.ifacesRec ·)) = true := by kernel_rfl
theorem ef20 : (Rows.fnEntryToldRow.loopsOut == Tryz.f3.resultTypes.toList.any (Tryz.prog.loopsFrom ·)) = true := by kernel_rfl
theorem ef26 : (Rows.fnEntryToldRow.pinned == Rows.fnEntryToldRow.pinnedBy) = true := by kernel_rfl
theorem ef27 : (Rows.fnEntryToldRow.veiled == (Tryz.f3.params.toList ++ Rows.fnEntryToldSpec.plain.varTypes Tryz.prog ++ Tryz.f3.resultTypes.toList).any (Tryz.prog.veiledRec ·)) = true := by kernel_rfl
theorem ef28 : Rows.fnEntryToldRow.veiledFits Tryz.prog Tryz.f3.params.toList (Tryz.f3.params.toList ++ Rows.fnEntryToldSpec.plain.varTypes Tryz.prog ++ Tryz.f3.resultTypes.toList) = true := by kernel_rfl

theorem entry_facts : joinedFacts Tryz.prog 3 Tryz.f3 Rows.fnEntryToldSpec Rows.fnEntryToldRow = true :=
  facts_of _ _ 3 _ ⟨rfl, rfl, rfl, rfl, rfl, rfl, rfl, rfl⟩ ef1 ef4 ef5 ef8 ef9 ef10 ef11 ef12 ef13 ef14 ef15 ef16 ef17 ef18 ef19 ef20 ef26 ef27 ef28

end Go.Proofs.YtocjfcgailkfjaaGreatDoor
end
