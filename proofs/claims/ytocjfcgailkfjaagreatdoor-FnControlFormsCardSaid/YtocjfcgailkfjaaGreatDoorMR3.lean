/- The closed facts that all rows share. -/
import Derived.Test.YtocjfcgailkfjaaGreatDoorMR0
import Derived.Test.YtocjfcgailkfjaaGreatDoorRows
import Derived.JoinedOf

set_option linter.unusedVariables false
set_option linter.unusedSimpArgs false
set_option linter.unusedSectionVars false

section
namespace Go.Proofs.YtocjfcgailkfjaaGreatDoor
open Go.ChangeShapes Go.WideShapes Go.ChangeAt Go.RowKit

theorem jf2 : laidOutB Tryz.prog = true := by kernel_rfl
theorem jf3 : mapsRowed Tryz.prog = true := by kernel_rfl
theorem jf6 : (Tryz.prog.stops == []) = true := by kernel_rfl
theorem jf7 : (Tryz.prog.stopKnobs == []) = true := by kernel_rfl
theorem jf21 : (Rows.fnEntryToldRow.plainKeys == Tryz.prog.plainKeys) = true := by kernel_rfl
theorem jf22 : Tryz.prog.stopsHeard = true := by kernel_rfl
theorem jf23 : Tryz.prog.mayEnter = true := by kernel_rfl
theorem jf24 : (Rows.fnEntryToldRow.lifted == Tryz.prog.liftsFinal) = true := by kernel_rfl
theorem jf25 : (Tryz.prog.make == some Rows.fnEntryToldRow.make) = true := by kernel_rfl

/-- The closed facts of a row, one by one. -/
theorem facts_of (s : ChangeSpec) (c : OpenClaim) (f : FuncId) (fn : Func) (e : c.stops = [] ∧ c.knobs = [] ∧ c.domain = [] ∧ c.kinds = [] ∧ c.shortTexts = none ∧ c.lifted = Rows.fnEntryToldRow.lifted ∧ c.make = Rows.fnEntryToldRow.make ∧ c.plainKeys = Rows.fnEntryToldRow.plainKeys)
    (h1 : c.wf (OpenSpec.ofChange s) = true) (h4 : fn.params.all (Tryz.prog.readableRec ·) = true) (h5 : namedTie Tryz.prog c.named s.vars = true)
    (h8 : (c.inPlace == Tryz.prog.inPlace f) = true) (h9 : (c.unfollowed == Tryz.prog.unfollowed f) = true) (h10 : (c.recurses == Tryz.prog.recurses f) = true) (h11 : (c.named == Tryz.prog.varsNamed f) = true)
    (h12 : (c.maps == (fn.params.toList ++ s.plain.varTypes Tryz.prog).any (Tryz.prog.mapsRec ·)) = true) (h13 : (c.ifaces == (fn.params.toList ++ s.plain.varTypes Tryz.prog).any (Tryz.prog.ifacesRec ·)) = true) (h14 : (c.mapsOut == Tryz.prog.mapsAmong fn.resultTypes.toList) = true)
    (h15 : (c.loops == (fn.params.toList ++ s.plain.varTypes Tryz.prog).any (Tryz.prog.loopsFrom ·)) = true) (h16 : (c.wideKeys == (fn.params.toList ++ s.plain.varTypes Tryz.prog ++ fn.resultTypes.toList).any (Tryz.prog.wideKeysFrom ·)) = true)
    (h17 : s.vars.all (Tryz.prog.varReadable ·) = true) (h18 : fn.resultTypes.all (fun t => Tryz.prog.readableRec t && decide (t < Tryz.prog.types.size)) = true) (h19 : (c.ifacesOut == fn.resultTypes.toList.any (Tryz.prog.ifacesRec ·)) = true) (h20 : (c.loopsOut == fn.resultTypes.toList.any (Tryz.prog.loopsFrom ·)) = true)
    (h26 : (c.pinned == c.pinnedBy) = true) (h27 : (c.veiled == (fn.params.toList ++ s.plain.varTypes Tryz.prog ++ fn.resultTypes.toList).any (Tryz.prog.veiledRec ·)) = true) (h28 : c.veiledFits Tryz.prog fn.params.toList (fn.params.toList ++ s.plain.varTypes Tryz.prog ++ fn.resultTypes.toList) = true) :
    joinedFacts Tryz.prog f fn s c = true := by
  obtain ⟨e1, e2, e3, e4, e5, e6, e7, e8⟩ := e
  unfold joinedFacts
  simp only [Bool.and_eq_true]
  exact ⟨⟨⟨⟨⟨⟨⟨⟨⟨⟨⟨⟨⟨⟨⟨⟨⟨⟨⟨⟨⟨⟨⟨⟨⟨⟨⟨⟨⟨⟨⟨h1, jf2⟩, jf3⟩, h4⟩, h5⟩, (by rw [e1]; rfl)⟩, jf6⟩, (by rw [e2]; rfl)⟩, jf7⟩, h8⟩, h9⟩, h10⟩, h11⟩, h12⟩, h13⟩, h14⟩, h15⟩, h16⟩, h17⟩, h18⟩, h19⟩, h20⟩, (by rw [e8]; exact jf21)⟩, (by rw [e5]; rfl)⟩, jf22⟩, jf23⟩, (by rw [e6]; exact jf24)⟩, (by rw [e7]; exact jf25)⟩, (by rw [e3, e4]; rfl)⟩, h26⟩, h27⟩, h28⟩

end Go.Proofs.YtocjfcgailkfjaaGreatDoor
end
