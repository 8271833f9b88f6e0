/-
  DERIVED. GIVEN WITH THE SEED: THE CARDS: each row of YtidkekohcmejlaaDoorRows.lean that lists a variable, with what it lists TIED to the program's text (the seventh form; the later family's looks); each row that meets fmt, with fmt's text TOLD by the authors' own Lean function (tested against real Go, not proved from fmt's source: count such statements apart). THE CARD IS WHAT COUNTS. Prove the row's statement (the work); the ties are given (YtidkekohcmejlaaDoorTie.lean); close each card by the builder's one call (the guide's Derived/Test/ToyasCard.lean, 'card_holds'). Laid BY PROGRAM, IN A SANDBOX (cutbox-door.mjs). By AI agents, Wed Nov 11 2026. No macro, syntax, notation, axiom, sorry.
-/
import Derived.Test.YtidkekohcmejlaaDoorRows
import GoSem.ClaimSeven
namespace Go.Proofs.YtidkekohcmejlaaDoor
namespace Rows

/-- THE TIED CARD OF 'laws.FnUnsafeShareAcknowledgeResponse'. -/
def fnUnsafeShareAcknowledgeResponseCard : Claim7 := { stood := { row := fnUnsafeShareAcknowledgeResponseRow, standIns := [], harness := (true, "cb980154c5d49d10472d00d4d302ca09adfdc4d55d53e5535419547bd73f4f74"), looks := false }, kinds := [], alts := [], laidByText := true, laidKinds := [.sentinel], laidTests := true, laidLooks := .later }
def FnUnsafeShareAcknowledgeResponseCardSaid : Prop := Claim7.holds Tryd.pinned (.plain (OpenSpec.ofChange fnUnsafeShareAcknowledgeResponseSpec)) fnUnsafeShareAcknowledgeResponseCard

/-- THE TIED CARD OF 'laws.FnUnsafeDeleteShareGroupStateResponse'. -/
def fnUnsafeDeleteShareGroupStateResponseCard : Claim7 := { stood := { row := fnUnsafeDeleteShareGroupStateResponseRow, standIns := [], harness := (true, "cb980154c5d49d10472d00d4d302ca09adfdc4d55d53e5535419547bd73f4f74"), looks := false }, kinds := [], alts := [], laidByText := true, laidKinds := [.sentinel], laidTests := true, laidLooks := .later }
def FnUnsafeDeleteShareGroupStateResponseCardSaid : Prop := Claim7.holds Tryd.pinned (.plain (OpenSpec.ofChange fnUnsafeDeleteShareGroupStateResponseSpec)) fnUnsafeDeleteShareGroupStateResponseCard

/-- THE TIED CARD OF 'laws.FnUnsafeInitProducerIDRequest'. -/
def fnUnsafeInitProducerIDRequestCard : Claim7 := { stood := { row := fnUnsafeInitProducerIDRequestRow, standIns := [], harness := (true, "cb980154c5d49d10472d00d4d302ca09adfdc4d55d53e5535419547bd73f4f74"), looks := false }, kinds := [], alts := [], laidByText := true, laidKinds := [.sentinel], laidTests := true, laidLooks := .later }
def FnUnsafeInitProducerIDRequestCardSaid : Prop := Claim7.holds Tryd.pinned (.plain (OpenSpec.ofChange fnUnsafeInitProducerIDRequestSpec)) fnUnsafeInitProducerIDRequestCard

/-- THE TIED CARD OF 'laws.FnTellHeartbeatResponse'. -/
def fnTellHeartbeatResponseCard : Claim7 := { stood := { row := fnTellHeartbeatResponseRow, standIns := [], harness := (true, "cb980154c5d49d10472d00d4d302ca09adfdc4d55d53e5535419547bd73f4f74"), looks := false }, kinds := [], alts := [], laidByText := true, laidKinds := [.sentinel], laidTests := true, laidLooks := .later }
def FnTellHeartbeatResponseCardSaid : Prop := Claim7.holds Tryd.pinned (.plain (OpenSpec.ofChange fnTellHeartbeatResponseSpec)) fnTellHeartbeatResponseCard

/-- THE TIED CARD OF 'laws.FnTellUnregisterControllerRequest'. -/
def fnTellUnregisterControllerRequestCard : Claim7 := { stood := { row := fnTellUnregisterControllerRequestRow, standIns := [], harness := (true, "cb980154c5d49d10472d00d4d302ca09adfdc4d55d53e5535419547bd73f4f74"), looks := false }, kinds := [], alts := [], laidByText := true, laidKinds := [.sentinel], laidTests := true, laidLooks := .later }
def FnTellUnregisterControllerRequestCardSaid : Prop := Claim7.holds Tryd.pinned (.plain (OpenSpec.ofChange fnTellUnregisterControllerRequestSpec)) fnTellUnregisterControllerRequestCard

/-- THE TIED CARD OF 'laws.FnTellEnvelopeResponse'. -/
def fnTellEnvelopeResponseCard : Claim7 := { stood := { row := fnTellEnvelopeResponseRow, standIns := [], harness := (true, "cb980154c5d49d10472d00d4d302ca09adfdc4d55d53e5535419547bd73f4f74"), looks := false }, kinds := [], alts := [], laidByText := true, laidKinds := [.sentinel], laidTests := true, laidLooks := .later }
def FnTellEnvelopeResponseCardSaid : Prop := Claim7.holds Tryd.pinned (.plain (OpenSpec.ofChange fnTellEnvelopeResponseSpec)) fnTellEnvelopeResponseCard

/-- THE TIED CARD OF 'laws.FnTellAddRaftVoterResponse'. -/
def fnTellAddRaftVoterResponseCard : Claim7 := { stood := { row := fnTellAddRaftVoterResponseRow, standIns := [], harness := (true, "cb980154c5d49d10472d00d4d302ca09adfdc4d55d53e5535419547bd73f4f74"), looks := false }, kinds := [], alts := [], laidByText := true, laidKinds := [.sentinel], laidTests := true, laidLooks := .later }
def FnTellAddRaftVoterResponseCardSaid : Prop := Claim7.holds Tryd.pinned (.plain (OpenSpec.ofChange fnTellAddRaftVoterResponseSpec)) fnTellAddRaftVoterResponseCard

/-- THE SECOND FORM's CARD OF 'laws.FnUnsafeShareAcknowledgeResponse'. -/
def fnUnsafeShareAcknowledgeResponseUptoCard : Claim7 := { stood := { row := fnUnsafeShareAcknowledgeResponseUptoRow, standIns := [], harness := (true, "cb980154c5d49d10472d00d4d302ca09adfdc4d55d53e5535419547bd73f4f74"), looks := false }, kinds := [], alts := [], laidByText := true, laidKinds := [.sentinel], laidTests := true, laidLooks := .later }
def FnUnsafeShareAcknowledgeResponseUptoCardSaid : Prop := Claim7.holds Tryd.pinned (.plain (OpenSpec.upto fnUnsafeShareAcknowledgeResponseSpec)) fnUnsafeShareAcknowledgeResponseUptoCard

/-- THE SECOND FORM's CARD OF 'laws.FnUnsafeDeleteShareGroupStateResponse'. -/
def fnUnsafeDeleteShareGroupStateResponseUptoCard : Claim7 := { stood := { row := fnUnsafeDeleteShareGroupStateResponseUptoRow, standIns := [], harness := (true, "cb980154c5d49d10472d00d4d302ca09adfdc4d55d53e5535419547bd73f4f74"), looks := false }, kinds := [], alts := [], laidByText := true, laidKinds := [.sentinel], laidTests := true, laidLooks := .later }
def FnUnsafeDeleteShareGroupStateResponseUptoCardSaid : Prop := Claim7.holds Tryd.pinned (.plain (OpenSpec.upto fnUnsafeDeleteShareGroupStateResponseSpec)) fnUnsafeDeleteShareGroupStateResponseUptoCard

/-- THE SECOND FORM's CARD OF 'laws.FnUnsafeInitProducerIDRequest'. -/
def fnUnsafeInitProducerIDRequestUptoCard : Claim7 := { stood := { row := fnUnsafeInitProducerIDRequestUptoRow, standIns := [], harness := (true, "cb980154c5d49d10472d00d4d302ca09adfdc4d55d53e5535419547bd73f4f74"), looks := false }, kinds := [], alts := [], laidByText := true, laidKinds := [.sentinel], laidTests := true, laidLooks := .later }
def FnUnsafeInitProducerIDRequestUptoCardSaid : Prop := Claim7.holds Tryd.pinned (.plain (OpenSpec.upto fnUnsafeInitProducerIDRequestSpec)) fnUnsafeInitProducerIDRequestUptoCard

/-- THE SECOND FORM's CARD OF 'laws.FnTellHeartbeatResponse'. -/
def fnTellHeartbeatResponseUptoCard : Claim7 := { stood := { row := fnTellHeartbeatResponseUptoRow, standIns := [], harness := (true, "cb980154c5d49d10472d00d4d302ca09adfdc4d55d53e5535419547bd73f4f74"), looks := false }, kinds := [], alts := [], laidByText := true, laidKinds := [.sentinel], laidTests := true, laidLooks := .later }
def FnTellHeartbeatResponseUptoCardSaid : Prop := Claim7.holds Tryd.pinned (.plain (OpenSpec.upto fnTellHeartbeatResponseSpec)) fnTellHeartbeatResponseUptoCard

/-- THE SECOND FORM's CARD OF 'laws.FnTellUnregisterControllerRequest'. -/
def fnTellUnregisterControllerRequestUptoCard : Claim7 := { stood := { row := fnTellUnregisterControllerRequestUptoRow, standIns := [], harness := (true, "cb980154c5d49d10472d00d4d302ca09adfdc4d55d53e5535419547bd73f4f74"), looks := false }, kinds := [], alts := [], laidByText := true, laidKinds := [.sentinel], laidTests := true, laidLooks := .later }
def FnTellUnregisterControllerRequestUptoCardSaid : Prop := Claim7.holds Tryd.pinned (.plain (OpenSpec.upto fnTellUnregisterControllerRequestSpec)) fnTellUnregisterControllerRequestUptoCard

/-- THE SECOND FORM's CARD OF 'laws.FnTellEnvelopeResponse'. -/
def fnTellEnvelopeResponseUptoCard : Claim7 := { stood := { row := fnTellEnvelopeResponseUptoRow, standIns := [], harness := (true, "cb980154c5d49d10472d00d4d302ca09adfdc4d55d53e5535419547bd73f4f74"), looks := false }, kinds := [], alts := [], laidByText := true, laidKinds := [.sentinel], laidTests := true, laidLooks := .later }
def FnTellEnvelopeResponseUptoCardSaid : Prop := Claim7.holds Tryd.pinned (.plain (OpenSpec.upto fnTellEnvelopeResponseSpec)) fnTellEnvelopeResponseUptoCard

/-- THE SECOND FORM's CARD OF 'laws.FnTellAddRaftVoterResponse'. -/
def fnTellAddRaftVoterResponseUptoCard : Claim7 := { stood := { row := fnTellAddRaftVoterResponseUptoRow, standIns := [], harness := (true, "cb980154c5d49d10472d00d4d302ca09adfdc4d55d53e5535419547bd73f4f74"), looks := false }, kinds := [], alts := [], laidByText := true, laidKinds := [.sentinel], laidTests := true, laidLooks := .later }
def FnTellAddRaftVoterResponseUptoCardSaid : Prop := Claim7.holds Tryd.pinned (.plain (OpenSpec.upto fnTellAddRaftVoterResponseSpec)) fnTellAddRaftVoterResponseUptoCard
end Rows
end Go.Proofs.YtidkekohcmejlaaDoor
