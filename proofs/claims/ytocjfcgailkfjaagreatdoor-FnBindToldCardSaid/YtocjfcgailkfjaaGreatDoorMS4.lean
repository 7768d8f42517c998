/- FnBindTold: the closed facts of its row. -/
import Derived.Test.YtocjfcgailkfjaaGreatDoorMR3
import Derived.Test.YtocjfcgailkfjaaGreatDoorRows
import Derived.JoinedOf

set_option linter.unusedVariables false
set_option linter.unusedSimpArgs false
set_option linter.unusedSectionVars false

section
namespace Go.Proofs.YtocjfcgailkfjaaGreatDoor
open Go.ChangeShapes Go.WideShapes Go.ChangeAt Go.RowKit

theorem bf1 : Rows.fnBindToldRow.wf (OpenSpec.ofChange Rows.fnBindToldSpec) = true := by kernel_rfl
theorem bf4 : Tryz.f4.params.all (Tryz.prog.readableRec ·) = true := by kernel_rfl
theorem bf5 : namedTie Tryz.prog Rows.fnBindToldRow.named Rows.fnBindToldSpec.vars = true := by kernel_rfl
theorem bf8 : (Rows.fnBindToldRow.inPlace == Tryz.prog.inPlace 4) = true := by kernel_rfl
theorem bf9 : (Rows.fnBindToldRow.unfollowed == Tryz.prog.unfollowed 4) = true := by kernel_rfl
theorem bf10 : (Rows.fnBindToldRow.recurses == Tryz.prog.recurses 4) = true := by kernel_rfl
theorem bf11 : (Rows.fnBindToldRow.named == Tryz.prog.varsNamed 4) = true := by kernel_rfl
theorem bf12 : (Rows.fnBindToldRow.maps == (Tryz.f4.params.toList ++ Rows.fnBindToldSpec.plain.varTypes Tryz.prog).any (Tryz.prog.mapsRec ·)) = true := by kernel_rfl
theorem bf13 : (Rows.fnBindToldRow.ifaces == (Tryz.f4.params.toList ++ Rows.fnBindToldSpec.plain.varTypes Tryz.prog).any (Tryz.prog.ifacesRec ·)) = true := by kernel_rfl
theorem bf14 : (Rows.fnBindToldRow.mapsOut == Tryz.prog.mapsAmong Tryz.f4.resultTypes.toList) = true := by kernel_rfl
theorem bf15 : (Rows.fnBindToldRow.loops == (Tryz.f4.params.toList ++ Rows.fnBindToldSpec.plain.varTypes Tryz.prog).any (Tryz.prog.loopsFrom ·)) = true := by kernel_rfl
theorem bf16 : (Rows.fnBindToldRow.wideKeys == (Tryz.f4.params.toList ++ Rows.fnBindToldSpec.plain.varTypes Tryz.prog ++ Tryz.f4.resultTypes.toList).any (Tryz.prog.wideKeysFrom ·)) = true := by kernel_rfl
theorem bf17 : Rows.fnBindToldSpec.vars.all (Tryz.prog.varReadable ·) = true := by kernel_rfl
theorem bf18 : Tryz.f4.resultTypes.all (fun t => Tryz.prog.readableRec t && decide (t < Tryz.prog.types.size)) = true := by kernel_rfl
theorem bf19 : (Rows.fnBindToldRow.ifacesOut == Tryz.f4.resultTypes.toList.any (Tryz.prog.ifacesRec ·)) = true := by kernel_rfl
theorem bf20 : (Rows.fnBindToldRow.loopsOut == Tryz.f4.resultTypes.toList.any (Tryz.prog.loopsFrom ·)) = true := by kernel_rfl
theorem bf26 : (Rows.fnBindToldRow.pinned == Rows.fnBindToldRow.pinnedBy) = true := by kernel_rfl
theorem bf27 : (Rows.fnBindToldRow.veiled == (Tryz.f4.params.toList ++ Rows.fnBindToldSpec.plain.varTypes Tryz.prog ++ Tryz.f4.resultTypes.toList).any (Tryz.prog.veiledRec ·)) = true := by kernel_rfl
theorem bf28 : Rows.fnBindToldRow.veiledFits Tryz.prog Tryz.f4.params.toList (Tryz.f4.params.toList ++ Rows.fnBindToldSpec.plain.varTypes Tryz.prog ++ Tryz.f4.resultTypes.toList) = true := by kernel_rfl

theorem bind_facts : joinedFacts Tryz.prog 4 Tryz.f4 Rows.fnBindToldSpec Rows.fnBindToldRow = true :=
  facts_of _ _ 4 _ ⟨rfl, rfl, rfl, rfl, rfl, rfl, rfl, rfl⟩ bf1 bf4 bf5 bf8 bf9 bf10 bf11 bf12 bf13 bf14 bf15 bf16 bf17 bf18 bf19 bf20 bf26 bf27 bf28

end Go.Proofs.YtocjfcgailkfjaaGreatDoor
end
