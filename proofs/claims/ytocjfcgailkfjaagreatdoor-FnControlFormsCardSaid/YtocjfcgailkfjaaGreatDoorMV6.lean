/- FnControlForms answers true for every input, and each argument reads behind the call as it read before (the card). Conditions: those of the given row alone: the listed package-level variables start as the program's text lays them, which the given tie shows. -/
import Derived.Test.YtocjfcgailkfjaaGreatDoorMV5
import Derived.Test.YtocjfcgailkfjaaGreatDoorTie
import Derived.Test.YtocjfcgailkfjaaGreatDoorCards
import Derived.SevenTiedAt

set_option linter.unusedVariables false
set_option linter.unusedSimpArgs false
set_option linter.unusedSectionVars false

section
namespace Go.Proofs.YtocjfcgailkfjaaGreatDoor
open Go.ChangeShapes Go.WideShapes Go.ChangeAt Go.RowKit

theorem ctlf_card : Rows.FnControlFormsCardSaid :=
  Claim7.holds_tied_plain_at .later [] [.data, .data, .data, .data, .sentinel, .sentinel, .sentinel, .sentinel, .sentinel, .sentinel, .sentinel, .pinned] true (true, "0225faf2d30a612f169d881372904a9e55c90a9289952b87e0fbb764a186908c") true
    ctlf_holds
    (fun _ h => by cases h) (by kernel_rfl) (fun _ h => by cases h) fnControlForms_row_tie rfl ⟨rfl, rfl⟩ (by kernel_rfl) rfl
    (fun f fn hf hfn => by
      obtain rfl : f = 6 := Option.some.inj ((show Tryz.prog.funcNamed "pub-compendium/laws.FnControlForms" = some 6 by kernel_rfl).symm.trans hf) |>.symm
      obtain rfl : fn = Tryz.f6 := (Option.some.inj (Tryz.func6.symm.trans hfn)).symm
      exact ⟨by kernel_rfl, fun j t ht => by
        rw [Tryz.params6] at ht
        have hm : t ∈ [65, 26] := by simpa using Array.mem_of_getElem? ht
        have hall : ([65, 26].all fun u => !Tryz.prog.wantsStandIn u) = true := by kernel_rfl
        exact (show Tryz.prog.wantsStandIn t = false by simpa using List.all_eq_true.1 hall t hm)⟩)
    (by kernel_rfl)
#print axioms ctlf_card

end Go.Proofs.YtocjfcgailkfjaaGreatDoor
end
