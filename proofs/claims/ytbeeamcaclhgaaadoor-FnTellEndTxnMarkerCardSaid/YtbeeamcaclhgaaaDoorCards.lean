/-
  DERIVED. GIVEN WITH THE SEED: THE CARDS: each row of YtbeeamcaclhgaaaDoorRows.lean that lists a variable, with what it lists TIED to the program's text (the seventh form; the later family's looks); each row that meets fmt, with fmt's text TOLD by the authors' own Lean function (tested against real Go, not proved from fmt's source: count such statements apart). THE CARD IS WHAT COUNTS. Prove the row's statement (the work); the ties are given (YtbeeamcaclhgaaaDoorTie.lean); close each card by the builder's one call (the guide's Derived/Test/ToyasCard.lean, 'card_holds'). Laid BY PROGRAM, IN A SANDBOX (cutbox-door.mjs). By AI agents, Wed Nov 11 2026. No macro, syntax, notation, axiom, sorry.
-/
import Derived.Test.YtbeeamcaclhgaaaDoorRows
import GoSem.ClaimSeven
namespace Go.Proofs.YtbeeamcaclhgaaaDoor
namespace Rows

/-- THE TIED CARD OF 'laws.FnTellEndTxnMarker'. -/
def fnTellEndTxnMarkerCard : Claim7 := { stood := { row := fnTellEndTxnMarkerRow, standIns := [], harness := (true, "9bed98beafb55dabcafe0f16981486885272743f9a67dd8ed2d5dd7774d888dd"), looks := false }, kinds := [], alts := [], laidByText := true, laidKinds := [.sentinel], laidTests := true, laidLooks := .later }
def FnTellEndTxnMarkerCardSaid : Prop := Claim7.holds Tryd.pinned (.plain (OpenSpec.ofChange fnTellEndTxnMarkerSpec)) fnTellEndTxnMarkerCard

/-- THE TIED CARD OF 'laws.FnTellGetTelemetrySubscriptionsRequest'. -/
def fnTellGetTelemetrySubscriptionsRequestCard : Claim7 := { stood := { row := fnTellGetTelemetrySubscriptionsRequestRow, standIns := [], harness := (true, "9bed98beafb55dabcafe0f16981486885272743f9a67dd8ed2d5dd7774d888dd"), looks := false }, kinds := [], alts := [], laidByText := true, laidKinds := [.sentinel], laidTests := true, laidLooks := .later }
def FnTellGetTelemetrySubscriptionsRequestCardSaid : Prop := Claim7.holds Tryd.pinned (.plain (OpenSpec.ofChange fnTellGetTelemetrySubscriptionsRequestSpec)) fnTellGetTelemetrySubscriptionsRequestCard

/-- THE TIED CARD OF 'laws.FnTellUnregisterControllerRequest'. -/
def fnTellUnregisterControllerRequestCard : Claim7 := { stood := { row := fnTellUnregisterControllerRequestRow, standIns := [], harness := (true, "9bed98beafb55dabcafe0f16981486885272743f9a67dd8ed2d5dd7774d888dd"), looks := false }, kinds := [], alts := [], laidByText := true, laidKinds := [.sentinel], laidTests := true, laidLooks := .later }
def FnTellUnregisterControllerRequestCardSaid : Prop := Claim7.holds Tryd.pinned (.plain (OpenSpec.ofChange fnTellUnregisterControllerRequestSpec)) fnTellUnregisterControllerRequestCard

/-- THE TIED CARD OF 'laws.FnTellHeartbeatResponse'. -/
def fnTellHeartbeatResponseCard : Claim7 := { stood := { row := fnTellHeartbeatResponseRow, standIns := [], harness := (true, "9bed98beafb55dabcafe0f16981486885272743f9a67dd8ed2d5dd7774d888dd"), looks := false }, kinds := [], alts := [], laidByText := true, laidKinds := [.sentinel], laidTests := true, laidLooks := .later }
def FnTellHeartbeatResponseCardSaid : Prop := Claim7.holds Tryd.pinned (.plain (OpenSpec.ofChange fnTellHeartbeatResponseSpec)) fnTellHeartbeatResponseCard

/-- THE TIED CARD OF 'laws.FnTellRenewDelegationTokenResponse'. -/
def fnTellRenewDelegationTokenResponseCard : Claim7 := { stood := { row := fnTellRenewDelegationTokenResponseRow, standIns := [], harness := (true, "9bed98beafb55dabcafe0f16981486885272743f9a67dd8ed2d5dd7774d888dd"), looks := false }, kinds := [], alts := [], laidByText := true, laidKinds := [.sentinel], laidTests := true, laidLooks := .later }
def FnTellRenewDelegationTokenResponseCardSaid : Prop := Claim7.holds Tryd.pinned (.plain (OpenSpec.ofChange fnTellRenewDelegationTokenResponseSpec)) fnTellRenewDelegationTokenResponseCard

/-- THE TIED CARD OF 'laws.FnTellEnvelopeResponse'. -/
def fnTellEnvelopeResponseCard : Claim7 := { stood := { row := fnTellEnvelopeResponseRow, standIns := [], harness := (true, "9bed98beafb55dabcafe0f16981486885272743f9a67dd8ed2d5dd7774d888dd"), looks := false }, kinds := [], alts := [], laidByText := true, laidKinds := [.sentinel], laidTests := true, laidLooks := .later }
def FnTellEnvelopeResponseCardSaid : Prop := Claim7.holds Tryd.pinned (.plain (OpenSpec.ofChange fnTellEnvelopeResponseSpec)) fnTellEnvelopeResponseCard

/-- THE TIED CARD OF 'laws.FnTellAddRaftVoterResponse'. -/
def fnTellAddRaftVoterResponseCard : Claim7 := { stood := { row := fnTellAddRaftVoterResponseRow, standIns := [], harness := (true, "9bed98beafb55dabcafe0f16981486885272743f9a67dd8ed2d5dd7774d888dd"), looks := false }, kinds := [], alts := [], laidByText := true, laidKinds := [.sentinel], laidTests := true, laidLooks := .later }
def FnTellAddRaftVoterResponseCardSaid : Prop := Claim7.holds Tryd.pinned (.plain (OpenSpec.ofChange fnTellAddRaftVoterResponseSpec)) fnTellAddRaftVoterResponseCard

/-- THE TIED CARD OF 'laws.FnTellRemoveRaftVoterRequest'. -/
def fnTellRemoveRaftVoterRequestCard : Claim7 := { stood := { row := fnTellRemoveRaftVoterRequestRow, standIns := [], harness := (true, "9bed98beafb55dabcafe0f16981486885272743f9a67dd8ed2d5dd7774d888dd"), looks := false }, kinds := [], alts := [], laidByText := true, laidKinds := [.sentinel], laidTests := true, laidLooks := .later }
def FnTellRemoveRaftVoterRequestCardSaid : Prop := Claim7.holds Tryd.pinned (.plain (OpenSpec.ofChange fnTellRemoveRaftVoterRequestSpec)) fnTellRemoveRaftVoterRequestCard

/-- THE SECOND FORM's CARD OF 'laws.FnTellEndTxnMarker'. -/
def fnTellEndTxnMarkerUptoCard : Claim7 := { stood := { row := fnTellEndTxnMarkerUptoRow, standIns := [], harness := (true, "9bed98beafb55dabcafe0f16981486885272743f9a67dd8ed2d5dd7774d888dd"), looks := false }, kinds := [], alts := [], laidByText := true, laidKinds := [.sentinel], laidTests := true, laidLooks := .later }
def FnTellEndTxnMarkerUptoCardSaid : Prop := Claim7.holds Tryd.pinned (.plain (OpenSpec.upto fnTellEndTxnMarkerSpec)) fnTellEndTxnMarkerUptoCard

/-- THE SECOND FORM's CARD OF 'laws.FnTellGetTelemetrySubscriptionsRequest'. -/
def fnTellGetTelemetrySubscriptionsRequestUptoCard : Claim7 := { stood := { row := fnTellGetTelemetrySubscriptionsRequestUptoRow, standIns := [], harness := (true, "9bed98beafb55dabcafe0f16981486885272743f9a67dd8ed2d5dd7774d888dd"), looks := false }, kinds := [], alts := [], laidByText := true, laidKinds := [.sentinel], laidTests := true, laidLooks := .later }
def FnTellGetTelemetrySubscriptionsRequestUptoCardSaid : Prop := Claim7.holds Tryd.pinned (.plain (OpenSpec.upto fnTellGetTelemetrySubscriptionsRequestSpec)) fnTellGetTelemetrySubscriptionsRequestUptoCard

/-- THE SECOND FORM's CARD OF 'laws.FnTellUnregisterControllerRequest'. -/
def fnTellUnregisterControllerRequestUptoCard : Claim7 := { stood := { row := fnTellUnregisterControllerRequestUptoRow, standIns := [], harness := (true, "9bed98beafb55dabcafe0f16981486885272743f9a67dd8ed2d5dd7774d888dd"), looks := false }, kinds := [], alts := [], laidByText := true, laidKinds := [.sentinel], laidTests := true, laidLooks := .later }
def FnTellUnregisterControllerRequestUptoCardSaid : Prop := Claim7.holds Tryd.pinned (.plain (OpenSpec.upto fnTellUnregisterControllerRequestSpec)) fnTellUnregisterControllerRequestUptoCard

/-- THE SECOND FORM's CARD OF 'laws.FnTellHeartbeatResponse'. -/
def fnTellHeartbeatResponseUptoCard : Claim7 := { stood := { row := fnTellHeartbeatResponseUptoRow, standIns := [], harness := (true, "9bed98beafb55dabcafe0f16981486885272743f9a67dd8ed2d5dd7774d888dd"), looks := false }, kinds := [], alts := [], laidByText := true, laidKinds := [.sentinel], laidTests := true, laidLooks := .later }
def FnTellHeartbeatResponseUptoCardSaid : Prop := Claim7.holds Tryd.pinned (.plain (OpenSpec.upto fnTellHeartbeatResponseSpec)) fnTellHeartbeatResponseUptoCard

/-- THE SECOND FORM's CARD OF 'laws.FnTellRenewDelegationTokenResponse'. -/
def fnTellRenewDelegationTokenResponseUptoCard : Claim7 := { stood := { row := fnTellRenewDelegationTokenResponseUptoRow, standIns := [], harness := (true, "9bed98beafb55dabcafe0f16981486885272743f9a67dd8ed2d5dd7774d888dd"), looks := false }, kinds := [], alts := [], laidByText := true, laidKinds := [.sentinel], laidTests := true, laidLooks := .later }
def FnTellRenewDelegationTokenResponseUptoCardSaid : Prop := Claim7.holds Tryd.pinned (.plain (OpenSpec.upto fnTellRenewDelegationTokenResponseSpec)) fnTellRenewDelegationTokenResponseUptoCard

/-- THE SECOND FORM's CARD OF 'laws.FnTellEnvelopeResponse'. -/
def fnTellEnvelopeResponseUptoCard : Claim7 := { stood := { row := fnTellEnvelopeResponseUptoRow, standIns := [], harness := (true, "9bed98beafb55dabcafe0f16981486885272743f9a67dd8ed2d5dd7774d888dd"), looks := false }, kinds := [], alts := [], laidByText := true, laidKinds := [.sentinel], laidTests := true, laidLooks := .later }
def FnTellEnvelopeResponseUptoCardSaid : Prop := Claim7.holds Tryd.pinned (.plain (OpenSpec.upto fnTellEnvelopeResponseSpec)) fnTellEnvelopeResponseUptoCard

/-- THE SECOND FORM's CARD OF 'laws.FnTellAddRaftVoterResponse'. -/
def fnTellAddRaftVoterResponseUptoCard : Claim7 := { stood := { row := fnTellAddRaftVoterResponseUptoRow, standIns := [], harness := (true, "9bed98beafb55dabcafe0f16981486885272743f9a67dd8ed2d5dd7774d888dd"), looks := false }, kinds := [], alts := [], laidByText := true, laidKinds := [.sentinel], laidTests := true, laidLooks := .later }
def FnTellAddRaftVoterResponseUptoCardSaid : Prop := Claim7.holds Tryd.pinned (.plain (OpenSpec.upto fnTellAddRaftVoterResponseSpec)) fnTellAddRaftVoterResponseUptoCard

/-- THE SECOND FORM's CARD OF 'laws.FnTellRemoveRaftVoterRequest'. -/
def fnTellRemoveRaftVoterRequestUptoCard : Claim7 := { stood := { row := fnTellRemoveRaftVoterRequestUptoRow, standIns := [], harness := (true, "9bed98beafb55dabcafe0f16981486885272743f9a67dd8ed2d5dd7774d888dd"), looks := false }, kinds := [], alts := [], laidByText := true, laidKinds := [.sentinel], laidTests := true, laidLooks := .later }
def FnTellRemoveRaftVoterRequestUptoCardSaid : Prop := Claim7.holds Tryd.pinned (.plain (OpenSpec.upto fnTellRemoveRaftVoterRequestSpec)) fnTellRemoveRaftVoterRequestUptoCard
end Rows
end Go.Proofs.YtbeeamcaclhgaaaDoor
