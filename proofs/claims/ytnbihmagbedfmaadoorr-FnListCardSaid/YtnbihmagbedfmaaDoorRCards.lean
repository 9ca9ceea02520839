/-
  DERIVED. GIVEN WITH THE SEED: THE CARDS: each row of YtnbihmagbedfmaaDoorRRows.lean that lists a variable, with what it lists TIED to the program's text (the seventh form; the later family's looks); each row that meets fmt, with fmt's text TOLD by the authors' own Lean function (tested against real Go, not proved from fmt's source: count such statements apart). THE CARD IS WHAT COUNTS. Prove the row's statement (the work); the ties are given (YtnbihmagbedfmaaDoorRTie.lean); close each card by the builder's one call (the guide's Derived/Test/ToyasCard.lean, 'card_holds'). Laid BY PROGRAM, IN A SANDBOX (cutbox-door.mjs). By AI agents, Wed Nov 11 2026. No macro, syntax, notation, axiom, sorry.
-/
import Derived.Test.YtnbihmagbedfmaaDoorRRows
import GoSem.ClaimSeven
namespace Go.Proofs.YtnbihmagbedfmaaDoorR
namespace Rows

/-- THE TIED CARD OF 'laws.FnHeader'. -/
def fnHeaderCard : Claim7 := { stood := { row := fnHeaderRow, standIns := [], harness := (true, "9b778ffd41b0a3682862ae2d831f6c2bafc43c4fad69058b9ea7f166ce284763"), looks := true }, kinds := [], alts := [], laidByText := true, laidKinds := [.data, .pinned, .pinned], laidTests := true, laidLooks := .later }
def FnHeaderCardSaid : Prop := Claim7.holds Tryd.pinned (.plain (OpenSpec.ofChange fnHeaderSpec)) fnHeaderCard

/-- THE TIED CARD OF 'laws.FnRenaming'. -/
def fnRenamingCard : Claim7 := { stood := { row := fnRenamingRow, standIns := [], harness := (true, "9b778ffd41b0a3682862ae2d831f6c2bafc43c4fad69058b9ea7f166ce284763"), looks := true }, kinds := [], alts := [], laidByText := true, laidKinds := [.data, .data, .data, .sentinel, .sentinel], laidTests := true, laidLooks := .later }
def FnRenamingCardSaid : Prop := Claim7.holds Tryd.pinned (.plain (OpenSpec.ofChange fnRenamingSpec)) fnRenamingCard

/-- THE TIED CARD OF 'laws.FnReferences'. -/
def fnReferencesCard : Claim7 := { stood := { row := fnReferencesRow, standIns := [], harness := (true, "9b778ffd41b0a3682862ae2d831f6c2bafc43c4fad69058b9ea7f166ce284763"), looks := true }, kinds := [], alts := [], laidByText := true, laidKinds := [.data, .data, .data, .sentinel, .sentinel], laidTests := true, laidLooks := .later }
def FnReferencesCardSaid : Prop := Claim7.holds Tryd.pinned (.plain (OpenSpec.ofChange fnReferencesSpec)) fnReferencesCard

/-- THE TIED CARD OF 'laws.FnList'. -/
def fnListCard : Claim7 := { stood := { row := fnListRow, standIns := [], harness := (true, "9b778ffd41b0a3682862ae2d831f6c2bafc43c4fad69058b9ea7f166ce284763"), looks := true }, kinds := [], alts := [], laidByText := true, laidKinds := [.data, .listed, .data, .pinned, .pinned], laidTests := true, laidLooks := .later }
def FnListCardSaid : Prop := Claim7.holds Tryd.pinned (.plain (OpenSpec.ofChange fnListSpec)) fnListCard

/-- THE SECOND FORM's CARD OF 'laws.FnHeader'. -/
def fnHeaderUptoCard : Claim7 := { stood := { row := fnHeaderUptoRow, standIns := [], harness := (true, "9b778ffd41b0a3682862ae2d831f6c2bafc43c4fad69058b9ea7f166ce284763"), looks := true }, kinds := [], alts := [], laidByText := true, laidKinds := [.data, .pinned, .pinned], laidTests := true, laidLooks := .later }
def FnHeaderUptoCardSaid : Prop := Claim7.holds Tryd.pinned (.plain (OpenSpec.upto fnHeaderSpec)) fnHeaderUptoCard

/-- THE SECOND FORM's CARD OF 'laws.FnRenaming'. -/
def fnRenamingUptoCard : Claim7 := { stood := { row := fnRenamingUptoRow, standIns := [], harness := (true, "9b778ffd41b0a3682862ae2d831f6c2bafc43c4fad69058b9ea7f166ce284763"), looks := true }, kinds := [], alts := [], laidByText := true, laidKinds := [.data, .data, .data, .sentinel, .sentinel], laidTests := true, laidLooks := .later }
def FnRenamingUptoCardSaid : Prop := Claim7.holds Tryd.pinned (.plain (OpenSpec.upto fnRenamingSpec)) fnRenamingUptoCard

/-- THE SECOND FORM's CARD OF 'laws.FnReferences'. -/
def fnReferencesUptoCard : Claim7 := { stood := { row := fnReferencesUptoRow, standIns := [], harness := (true, "9b778ffd41b0a3682862ae2d831f6c2bafc43c4fad69058b9ea7f166ce284763"), looks := true }, kinds := [], alts := [], laidByText := true, laidKinds := [.data, .data, .data, .sentinel, .sentinel], laidTests := true, laidLooks := .later }
def FnReferencesUptoCardSaid : Prop := Claim7.holds Tryd.pinned (.plain (OpenSpec.upto fnReferencesSpec)) fnReferencesUptoCard

/-- THE SECOND FORM's CARD OF 'laws.FnList'. -/
def fnListUptoCard : Claim7 := { stood := { row := fnListUptoRow, standIns := [], harness := (true, "9b778ffd41b0a3682862ae2d831f6c2bafc43c4fad69058b9ea7f166ce284763"), looks := true }, kinds := [], alts := [], laidByText := true, laidKinds := [.data, .listed, .data, .pinned, .pinned], laidTests := true, laidLooks := .later }
def FnListUptoCardSaid : Prop := Claim7.holds Tryd.pinned (.plain (OpenSpec.upto fnListSpec)) fnListUptoCard
end Rows
end Go.Proofs.YtnbihmagbedfmaaDoorR
