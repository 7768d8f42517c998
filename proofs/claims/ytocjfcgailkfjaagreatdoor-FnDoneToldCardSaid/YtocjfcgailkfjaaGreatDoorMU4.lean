/- FnDoneTold: the closed facts of its row. -/
import Derived.Test.YtocjfcgailkfjaaGreatDoorMR3
import Derived.Test.YtocjfcgailkfjaaGreatDoorRows
import Derived.JoinedOf

set_option linter.unusedVariables false
set_option linter.unusedSimpArgs false
set_option linter.unusedSectionVars false

section
namespace Go.Proofs.YtocjfcgailkfjaaGreatDoor
open Go.ChangeShapes Go.WideShapes Go.ChangeAt Go.RowKit

theorem df1 : Rows.fnDoneToldRow.wf (OpenSpec.ofChange Rows.fnDoneToldSpec) = true := by kernel_rfl
theorem df4 : Tryz.f5.params.all (Tryz.prog.readableRec ·) = true := by kernel_rfl
theorem df5 : namedTie Tryz.prog Rows.fnDoneToldRow.named Rows.fnDoneToldSpec.vars = true := by kernel_rfl
theorem df8 : (Rows.fnDoneToldRow.inPlace == Tryz.prog.inPlace 5) = true := by kernel_rfl
theorem df9 : (Rows.fnDoneToldRow.unfollowed == Tryz.prog.unfollowed 5) = true := by kernel_rfl
theorem df10 : (Rows.fnDoneToldRow.recurses == Tryz.prog.recurses 5) = true := by kernel_rfl
theorem df11 : (Rows.fnDoneToldRow.named == Tryz.prog.varsNamed 5) = true := by kernel_rfl
theorem df12 : (Rows.fnDoneToldRow.maps == (Tryz.f5.params.toList ++ Rows.fnDoneToldSpec.plain.varTypes Tryz.prog).any (Tryz.prog.mapsRec ·)) = true := by kernel_rfl
theorem df13 : (Rows.fnDoneToldRow.ifaces == (Tryz.f5.params.toList ++ Rows.fnDoneToldSpec.plain.varTypes Tryz.prog).any (Tryz.prog.ifacesRec ·)) = true := by kernel_rfl
theorem df14 : (Rows.fnDoneToldRow.mapsOut == Tryz.prog.mapsAmong Tryz.f5.resultTypes.toList) = true := by kernel_rfl
theorem df15 : (Rows.fnDoneToldRow.loops == (Tryz.f5.params.toList ++ Rows.fnDoneToldSpec.plain.varTypes Tryz.prog).any (Tryz.prog.loopsFrom ·)) = true := by kernel_rfl
theorem df16 : (Rows.fnDoneToldRow.wideKeys == (Tryz.f5.params.toList ++ Rows.fnDoneToldSpec.plain.varTypes Tryz.prog ++ Tryz.f5.resultTypes.toList).any (Tryz.prog.wideKeysFrom ·)) = true := by kernel_rfl
theorem df17 : Rows.fnDoneToldSpec.vars.all (Tryz.prog.varReadable ·) = true := by kernel_rfl
theorem df18 : Tryz.f5.resultTypes.all (fun t => Tryz.prog.readableRec t && decide (t < Tryz.prog.types.size)) = true := by kernel_rfl
theorem df19 : (Rows.fnDoneToldRow.ifacesOut == Tryz.f5.resultTypes.toList.any (Tryz.prog.ifacesRec ·)) = true := by kernel_rfl
theorem df20 : (Rows.fnDoneToldRow.loopsOut == Tryz.f5.resultTypes.toList.any (Tryz.prog.loopsFrom ·)) = true := by kernel_rfl
theorem df26 : (Rows.fnDoneToldRow.pinned == Rows.fnDoneToldRow.pinnedBy) = true := by kernel_rfl
theorem df27 : (Rows.fnDoneToldRow.veiled == (Tryz.f5.params.toList ++ Rows.fnDoneToldSpec.plain.varTypes Tryz.prog ++ Tryz.f5.resultTypes.toList).any (Tryz.prog.veiledRec ·)) = true := by kernel_rfl
theorem df28 : Rows.fnDoneToldRow.veiledFits Tryz.prog Tryz.f5.params.toList (Tryz.f5.params.toList ++ Rows.fnDoneToldSpec.plain.varTypes Tryz.prog ++ Tryz.f5.resultTypes.toList) = true := by kernel_rfl

theorem done_facts : joinedFacts Tryz.prog 5 Tryz.f5 Rows.fnDoneToldSpec Rows.fnDoneToldRow = true :=
  facts_of _ _ 5 _ ⟨rfl, rfl, rfl, rfl, rfl, rfl, rfl, rfl⟩ df1 df4 df5 df8 df9 df10 df11 df12 df13 df14 df15 df16 df17 df18 df19 df20 df26 df27 df28

end Go.Proofs.YtocjfcgailkfjaaGreatDoor
end
