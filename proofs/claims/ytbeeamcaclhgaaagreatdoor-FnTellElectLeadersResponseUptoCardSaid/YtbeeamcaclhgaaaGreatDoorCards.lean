/-
  DERIVED. GIVEN WITH THE SEED: THE CARDS: each row of YtbeeamcaclhgaaaGreatDoorRows.lean that lists a variable, with what it lists TIED to the program's text (the seventh form; the later family's looks); each row that meets fmt, with fmt's text TOLD by the authors' own Lean function (tested against real Go, not proved from fmt's source: count such statements apart). THE CARD IS WHAT COUNTS. Prove the row's statement (the work); the ties are given (YtbeeamcaclhgaaaGreatDoorTie.lean); close each card by the builder's one call (the guide's Derived/Test/ToyasCard.lean, 'card_holds'). Laid BY PROGRAM, IN A SANDBOX (cutbox-door.mjs). By AI agents, Wed Nov 11 2026. No macro, syntax, notation, axiom, sorry.
-/
import Derived.Test.YtbeeamcaclhgaaaGreatDoorRows
import GoSem.ClaimSeven
namespace Go.Proofs.YtbeeamcaclhgaaaGreatDoor
namespace Rows

/-- THE TIED CARD OF 'laws.FnTellDescribeLogDirsRequest'. -/
def fnTellDescribeLogDirsRequestCard : Claim7 := { stood := { row := fnTellDescribeLogDirsRequestRow, standIns := [], harness := (true, "86f83a2e2ceff8e248d8b87205efbfe815dff05c96d72a0dfb2685366d14e176"), looks := false }, kinds := [], alts := [], laidByText := true, laidKinds := [.sentinel], laidTests := true, laidLooks := .later }
def FnTellDescribeLogDirsRequestCardSaid : Prop := Claim7.holds Tryz.pinned (.plain (OpenSpec.ofChange fnTellDescribeLogDirsRequestSpec)) fnTellDescribeLogDirsRequestCard

/-- THE TIED CARD OF 'laws.FnTellAlterConfigsResponse'. -/
def fnTellAlterConfigsResponseCard : Claim7 := { stood := { row := fnTellAlterConfigsResponseRow, standIns := [], harness := (true, "86f83a2e2ceff8e248d8b87205efbfe815dff05c96d72a0dfb2685366d14e176"), looks := false }, kinds := [], alts := [], laidByText := true, laidKinds := [.sentinel], laidTests := true, laidLooks := .later }
def FnTellAlterConfigsResponseCardSaid : Prop := Claim7.holds Tryz.pinned (.plain (OpenSpec.ofChange fnTellAlterConfigsResponseSpec)) fnTellAlterConfigsResponseCard

/-- THE TIED CARD OF 'laws.FnTellElectLeadersResponse'. -/
def fnTellElectLeadersResponseCard : Claim7 := { stood := { row := fnTellElectLeadersResponseRow, standIns := [], harness := (true, "86f83a2e2ceff8e248d8b87205efbfe815dff05c96d72a0dfb2685366d14e176"), looks := false }, kinds := [], alts := [], laidByText := true, laidKinds := [.sentinel], laidTests := true, laidLooks := .later }
def FnTellElectLeadersResponseCardSaid : Prop := Claim7.holds Tryz.pinned (.plain (OpenSpec.ofChange fnTellElectLeadersResponseSpec)) fnTellElectLeadersResponseCard

/-- THE TIED CARD OF 'laws.FnTellSyncGroupRequest'. -/
def fnTellSyncGroupRequestCard : Claim7 := { stood := { row := fnTellSyncGroupRequestRow, standIns := [], harness := (true, "86f83a2e2ceff8e248d8b87205efbfe815dff05c96d72a0dfb2685366d14e176"), looks := false }, kinds := [], alts := [], laidByText := true, laidKinds := [.sentinel], laidTests := true, laidLooks := .later }
def FnTellSyncGroupRequestCardSaid : Prop := Claim7.holds Tryz.pinned (.plain (OpenSpec.ofChange fnTellSyncGroupRequestSpec)) fnTellSyncGroupRequestCard

/-- THE SECOND FORM's CARD OF 'laws.FnTellDescribeLogDirsRequest'. -/
def fnTellDescribeLogDirsRequestUptoCard : Claim7 := { stood := { row := fnTellDescribeLogDirsRequestUptoRow, standIns := [], harness := (true, "86f83a2e2ceff8e248d8b87205efbfe815dff05c96d72a0dfb2685366d14e176"), looks := false }, kinds := [], alts := [], laidByText := true, laidKinds := [.sentinel], laidTests := true, laidLooks := .later }
def FnTellDescribeLogDirsRequestUptoCardSaid : Prop := Claim7.holds Tryz.pinned (.plain (OpenSpec.upto fnTellDescribeLogDirsRequestSpec)) fnTellDescribeLogDirsRequestUptoCard

/-- THE SECOND FORM's CARD OF 'laws.FnTellAlterConfigsResponse'. -/
def fnTellAlterConfigsResponseUptoCard : Claim7 := { stood := { row := fnTellAlterConfigsResponseUptoRow, standIns := [], harness := (true, "86f83a2e2ceff8e248d8b87205efbfe815dff05c96d72a0dfb2685366d14e176"), looks := false }, kinds := [], alts := [], laidByText := true, laidKinds := [.sentinel], laidTests := true, laidLooks := .later }
def FnTellAlterConfigsResponseUptoCardSaid : Prop := Claim7.holds Tryz.pinned (.plain (OpenSpec.upto fnTellAlterConfigsResponseSpec)) fnTellAlterConfigsResponseUptoCard

/-- THE SECOND FORM's CARD OF 'laws.FnTellElectLeadersResponse'. -/
def fnTellElectLeadersResponseUptoCard : Claim7 := { stood := { row := fnTellElectLeadersResponseUptoRow, standIns := [], harness := (true, "86f83a2e2ceff8e248d8b87205efbfe815dff05c96d72a0dfb2685366d14e176"), looks := false }, kinds := [], alts := [], laidByText := true, laidKinds := [.sentinel], laidTests := true, laidLooks := .later }
def FnTellElectLeadersResponseUptoCardSaid : Prop := Claim7.holds Tryz.pinned (.plain (OpenSpec.upto fnTellElectLeadersResponseSpec)) fnTellElectLeadersResponseUptoCard

/-- THE SECOND FORM's CARD OF 'laws.FnTellSyncGroupRequest'. -/
def fnTellSyncGroupRequestUptoCard : Claim7 := { stood := { row := fnTellSyncGroupRequestUptoRow, standIns := [], harness := (true, "86f83a2e2ceff8e248d8b87205efbfe815dff05c96d72a0dfb2685366d14e176"), looks := false }, kinds := [], alts := [], laidByText := true, laidKinds := [.sentinel], laidTests := true, laidLooks := .later }
def FnTellSyncGroupRequestUptoCardSaid : Prop := Claim7.holds Tryz.pinned (.plain (OpenSpec.upto fnTellSyncGroupRequestSpec)) fnTellSyncGroupRequestUptoCard
end Rows
end Go.Proofs.YtbeeamcaclhgaaaGreatDoor
