/-
  DERIVED. GIVEN WITH THE SEED: THE CARDS: each row of YtlkjiiibmfpbcaaGreatDoorRows.lean that lists a variable, with what it lists TIED to the program's text (the seventh form; the later family's looks); each row that meets fmt, with fmt's text TOLD by the authors' own Lean function (tested against real Go, not proved from fmt's source: count such statements apart). THE CARD IS WHAT COUNTS. Prove the row's statement (the work); the ties are given (YtlkjiiibmfpbcaaGreatDoorTie.lean); close each card by the builder's one call (the guide's Derived/Test/ToyasCard.lean, 'card_holds'). Laid BY PROGRAM, IN A SANDBOX (cutbox-door.mjs). By AI agents, Wed Nov 11 2026. No macro, syntax, notation, axiom, sorry.
-/
import Derived.Test.YtlkjiiibmfpbcaaGreatDoorRows
import GoSem.ClaimSeven
namespace Go.Proofs.YtlkjiiibmfpbcaaGreatDoor
namespace Rows

/-- THE TIED CARD OF 'laws.FnExp'. -/
def fnExpCard : Claim7 := { stood := { row := fnExpRow, standIns := [], harness := (true, "2773190f286ccc3b718483368e3a30cc17d4b2f820e65a8c217e81693fd72421"), looks := true }, kinds := [], alts := [], laidByText := true, laidKinds := [.data, .data, .data, .data, .data, .data], laidTests := true, laidLooks := .later }
def FnExpCardSaid : Prop := Claim7.holds Tryz.pinned (.plain (OpenSpec.ofChange fnExpSpec)) fnExpCard

/-- THE TIED CARD OF 'laws.FnItoa'. -/
def fnItoaCard : Claim7 := { stood := { row := fnItoaRow, standIns := [], harness := (true, "2773190f286ccc3b718483368e3a30cc17d4b2f820e65a8c217e81693fd72421"), looks := true }, kinds := [], alts := [], laidByText := true, laidKinds := [.data, .data, .data, .data, .data, .data, .data], laidTests := true, laidLooks := .later }
def FnItoaCardSaid : Prop := Claim7.holds Tryz.pinned (.plain (OpenSpec.ofChange fnItoaSpec)) fnItoaCard

/-- THE TIED CARD OF 'laws.FnScanBack'. -/
def fnScanBackCard : Claim7 := { stood := { row := fnScanBackRow, standIns := [], harness := (true, "2773190f286ccc3b718483368e3a30cc17d4b2f820e65a8c217e81693fd72421"), looks := true }, kinds := [], alts := [], laidByText := true, laidKinds := [.data, .data, .sentinel, .sentinel, .sentinel, .data, .data, .data, .data, .data], laidTests := true, laidLooks := .later }
def FnScanBackCardSaid : Prop := Claim7.holds Tryz.pinned (.plain (OpenSpec.ofChange fnScanBackSpec)) fnScanBackCard

/-- THE SECOND FORM's CARD OF 'laws.FnExp'. -/
def fnExpUptoCard : Claim7 := { stood := { row := fnExpUptoRow, standIns := [], harness := (true, "2773190f286ccc3b718483368e3a30cc17d4b2f820e65a8c217e81693fd72421"), looks := true }, kinds := [], alts := [], laidByText := true, laidKinds := [.data, .data, .data, .data, .data, .data], laidTests := true, laidLooks := .later }
def FnExpUptoCardSaid : Prop := Claim7.holds Tryz.pinned (.plain (OpenSpec.upto fnExpSpec)) fnExpUptoCard

/-- THE SECOND FORM's CARD OF 'laws.FnItoa'. -/
def fnItoaUptoCard : Claim7 := { stood := { row := fnItoaUptoRow, standIns := [], harness := (true, "2773190f286ccc3b718483368e3a30cc17d4b2f820e65a8c217e81693fd72421"), looks := true }, kinds := [], alts := [], laidByText := true, laidKinds := [.data, .data, .data, .data, .data, .data, .data], laidTests := true, laidLooks := .later }
def FnItoaUptoCardSaid : Prop := Claim7.holds Tryz.pinned (.plain (OpenSpec.upto fnItoaSpec)) fnItoaUptoCard

/-- THE SECOND FORM's CARD OF 'laws.FnScanBack'. -/
def fnScanBackUptoCard : Claim7 := { stood := { row := fnScanBackUptoRow, standIns := [], harness := (true, "2773190f286ccc3b718483368e3a30cc17d4b2f820e65a8c217e81693fd72421"), looks := true }, kinds := [], alts := [], laidByText := true, laidKinds := [.data, .data, .sentinel, .sentinel, .sentinel, .data, .data, .data, .data, .data], laidTests := true, laidLooks := .later }
def FnScanBackUptoCardSaid : Prop := Claim7.holds Tryz.pinned (.plain (OpenSpec.upto fnScanBackSpec)) fnScanBackUptoCard
end Rows
end Go.Proofs.YtlkjiiibmfpbcaaGreatDoor
