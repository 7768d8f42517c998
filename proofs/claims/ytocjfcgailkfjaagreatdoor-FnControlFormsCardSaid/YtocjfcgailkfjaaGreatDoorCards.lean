/-
  DERIVED. GIVEN WITH THE SEED: THE CARDS: each row of YtocjfcgailkfjaaGreatDoorRows.lean that lists a variable, with what it lists TIED to the program's text (the seventh form; the later family's looks); each row that meets fmt, with fmt's text TOLD by the authors' own Lean function (tested against real Go, not proved from fmt's source: count such statements apart). THE CARD IS WHAT COUNTS. Prove the row's statement (the work); the ties are given (YtocjfcgailkfjaaGreatDoorTie.lean); close each card by the builder's one call (the guide's Derived/Test/ToyasCard.lean, 'card_holds'). Laid BY PROGRAM, IN A SANDBOX (cutbox-door.mjs). By AI agents, Wed Nov 11 2026. No macro, syntax, notation, axiom, sorry.
-/
import Derived.Test.YtocjfcgailkfjaaGreatDoorRows
import GoSem.ClaimSeven
namespace Go.Proofs.YtocjfcgailkfjaaGreatDoor
namespace Rows

/-- THE TIED CARD OF 'laws.FnEntryTold'. -/
def fnEntryToldCard : Claim7 := { stood := { row := fnEntryToldRow, standIns := [], harness := (true, "0225faf2d30a612f169d881372904a9e55c90a9289952b87e0fbb764a186908c"), looks := true }, kinds := [], alts := [], laidByText := true, laidKinds := [.data, .data, .data, .data, .sentinel, .sentinel, .sentinel, .sentinel, .sentinel, .sentinel, .sentinel, .pinned], laidTests := true, laidLooks := .later }
def FnEntryToldCardSaid : Prop := Claim7.holds Tryz.pinned (.plain (OpenSpec.ofChange fnEntryToldSpec)) fnEntryToldCard

/-- THE TIED CARD OF 'laws.FnBindTold'. -/
def fnBindToldCard : Claim7 := { stood := { row := fnBindToldRow, standIns := [], harness := (true, "0225faf2d30a612f169d881372904a9e55c90a9289952b87e0fbb764a186908c"), looks := true }, kinds := [], alts := [], laidByText := true, laidKinds := [.data, .data, .data, .data, .sentinel, .sentinel, .sentinel, .sentinel, .sentinel, .sentinel, .sentinel, .pinned], laidTests := true, laidLooks := .later }
def FnBindToldCardSaid : Prop := Claim7.holds Tryz.pinned (.plain (OpenSpec.ofChange fnBindToldSpec)) fnBindToldCard

/-- THE TIED CARD OF 'laws.FnDoneTold'. -/
def fnDoneToldCard : Claim7 := { stood := { row := fnDoneToldRow, standIns := [], harness := (true, "0225faf2d30a612f169d881372904a9e55c90a9289952b87e0fbb764a186908c"), looks := true }, kinds := [], alts := [], laidByText := true, laidKinds := [.data, .data, .data, .data, .sentinel, .sentinel, .sentinel, .sentinel, .sentinel, .sentinel, .sentinel, .pinned], laidTests := true, laidLooks := .later }
def FnDoneToldCardSaid : Prop := Claim7.holds Tryz.pinned (.plain (OpenSpec.ofChange fnDoneToldSpec)) fnDoneToldCard

/-- THE TIED CARD OF 'laws.FnControlForms'. -/
def fnControlFormsCard : Claim7 := { stood := { row := fnControlFormsRow, standIns := [], harness := (true, "0225faf2d30a612f169d881372904a9e55c90a9289952b87e0fbb764a186908c"), looks := true }, kinds := [], alts := [], laidByText := true, laidKinds := [.data, .data, .data, .data, .sentinel, .sentinel, .sentinel, .sentinel, .sentinel, .sentinel, .sentinel, .pinned], laidTests := true, laidLooks := .later }
def FnControlFormsCardSaid : Prop := Claim7.holds Tryz.pinned (.plain (OpenSpec.ofChange fnControlFormsSpec)) fnControlFormsCard

/-- THE SECOND FORM's CARD OF 'laws.FnEntryTold'. -/
def fnEntryToldUptoCard : Claim7 := { stood := { row := fnEntryToldUptoRow, standIns := [], harness := (true, "0225faf2d30a612f169d881372904a9e55c90a9289952b87e0fbb764a186908c"), looks := true }, kinds := [], alts := [], laidByText := true, laidKinds := [.data, .data, .data, .data, .sentinel, .sentinel, .sentinel, .sentinel, .sentinel, .sentinel, .sentinel, .pinned], laidTests := true, laidLooks := .later }
def FnEntryToldUptoCardSaid : Prop := Claim7.holds Tryz.pinned (.plain (OpenSpec.upto fnEntryToldSpec)) fnEntryToldUptoCard

/-- THE SECOND FORM's CARD OF 'laws.FnBindTold'. -/
def fnBindToldUptoCard : Claim7 := { stood := { row := fnBindToldUptoRow, standIns := [], harness := (true, "0225faf2d30a612f169d881372904a9e55c90a9289952b87e0fbb764a186908c"), looks := true }, kinds := [], alts := [], laidByText := true, laidKinds := [.data, .data, .data, .data, .sentinel, .sentinel, .sentinel, .sentinel, .sentinel, .sentinel, .sentinel, .pinned], laidTests := true, laidLooks := .later }
def FnBindToldUptoCardSaid : Prop := Claim7.holds Tryz.pinned (.plain (OpenSpec.upto fnBindToldSpec)) fnBindToldUptoCard

/-- THE SECOND FORM's CARD OF 'laws.FnDoneTold'. -/
def fnDoneToldUptoCard : Claim7 := { stood := { row := fnDoneToldUptoRow, standIns := [], harness := (true, "0225faf2d30a612f169d881372904a9e55c90a9289952b87e0fbb764a186908c"), looks := true }, kinds := [], alts := [], laidByText := true, laidKinds := [.data, .data, .data, .data, .sentinel, .sentinel, .sentinel, .sentinel, .sentinel, .sentinel, .sentinel, .pinned], laidTests := true, laidLooks := .later }
def FnDoneToldUptoCardSaid : Prop := Claim7.holds Tryz.pinned (.plain (OpenSpec.upto fnDoneToldSpec)) fnDoneToldUptoCard

/-- THE SECOND FORM's CARD OF 'laws.FnControlForms'. -/
def fnControlFormsUptoCard : Claim7 := { stood := { row := fnControlFormsUptoRow, standIns := [], harness := (true, "0225faf2d30a612f169d881372904a9e55c90a9289952b87e0fbb764a186908c"), looks := true }, kinds := [], alts := [], laidByText := true, laidKinds := [.data, .data, .data, .data, .sentinel, .sentinel, .sentinel, .sentinel, .sentinel, .sentinel, .sentinel, .pinned], laidTests := true, laidLooks := .later }
def FnControlFormsUptoCardSaid : Prop := Claim7.holds Tryz.pinned (.plain (OpenSpec.upto fnControlFormsSpec)) fnControlFormsUptoCard
end Rows
end Go.Proofs.YtocjfcgailkfjaaGreatDoor
