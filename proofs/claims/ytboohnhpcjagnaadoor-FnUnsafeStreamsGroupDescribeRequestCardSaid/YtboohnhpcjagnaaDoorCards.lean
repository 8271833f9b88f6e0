/-
  DERIVED. GIVEN WITH THE SEED: THE CARDS: each row of YtboohnhpcjagnaaDoorRows.lean that lists a variable, with what it lists TIED to the program's text (the seventh form; the later family's looks); each row that meets fmt, with fmt's text TOLD by the authors' own Lean function (tested against real Go, not proved from fmt's source: count such statements apart). THE CARD IS WHAT COUNTS. Prove the row's statement (the work); the ties are given (YtboohnhpcjagnaaDoorTie.lean); close each card by the builder's one call (the guide's Derived/Test/ToyasCard.lean, 'card_holds'). Laid BY PROGRAM, IN A SANDBOX (cutbox-door.mjs). By AI agents, Wed Nov 11 2026. No macro, syntax, notation, axiom, sorry.
-/
import Derived.Test.YtboohnhpcjagnaaDoorRows
import GoSem.ClaimSeven
namespace Go.Proofs.YtboohnhpcjagnaaDoor
namespace Rows

/-- THE TIED CARD OF 'laws.FnUnsafeSASLHandshakeRequest'. -/
def fnUnsafeSASLHandshakeRequestCard : Claim7 := { stood := { row := fnUnsafeSASLHandshakeRequestRow, standIns := [], harness := (true, "014182bfbd65ae40826d4bb2c6938d5ecb72de86db9cbef47dbdbbd6ec1934f7"), looks := false }, kinds := [], alts := [], laidByText := true, laidKinds := [.sentinel], laidTests := true, laidLooks := .later }
def FnUnsafeSASLHandshakeRequestCardSaid : Prop := Claim7.holds Tryd.pinned (.plain (OpenSpec.ofChange fnUnsafeSASLHandshakeRequestSpec)) fnUnsafeSASLHandshakeRequestCard

/-- THE TIED CARD OF 'laws.FnUnsafeConnectMemberMetadata'. -/
def fnUnsafeConnectMemberMetadataCard : Claim7 := { stood := { row := fnUnsafeConnectMemberMetadataRow, standIns := [], harness := (true, "014182bfbd65ae40826d4bb2c6938d5ecb72de86db9cbef47dbdbbd6ec1934f7"), looks := false }, kinds := [], alts := [], laidByText := true, laidKinds := [.sentinel], laidTests := true, laidLooks := .later }
def FnUnsafeConnectMemberMetadataCardSaid : Prop := Claim7.holds Tryd.pinned (.plain (OpenSpec.ofChange fnUnsafeConnectMemberMetadataSpec)) fnUnsafeConnectMemberMetadataCard

/-- THE TIED CARD OF 'laws.FnUnsafeControllerRegistrationResponse'. -/
def fnUnsafeControllerRegistrationResponseCard : Claim7 := { stood := { row := fnUnsafeControllerRegistrationResponseRow, standIns := [], harness := (true, "014182bfbd65ae40826d4bb2c6938d5ecb72de86db9cbef47dbdbbd6ec1934f7"), looks := false }, kinds := [], alts := [], laidByText := true, laidKinds := [.sentinel], laidTests := true, laidLooks := .later }
def FnUnsafeControllerRegistrationResponseCardSaid : Prop := Claim7.holds Tryd.pinned (.plain (OpenSpec.ofChange fnUnsafeControllerRegistrationResponseSpec)) fnUnsafeControllerRegistrationResponseCard

/-- THE TIED CARD OF 'laws.FnUnsafeEndTxnRequest'. -/
def fnUnsafeEndTxnRequestCard : Claim7 := { stood := { row := fnUnsafeEndTxnRequestRow, standIns := [], harness := (true, "014182bfbd65ae40826d4bb2c6938d5ecb72de86db9cbef47dbdbbd6ec1934f7"), looks := false }, kinds := [], alts := [], laidByText := true, laidKinds := [.sentinel], laidTests := true, laidLooks := .later }
def FnUnsafeEndTxnRequestCardSaid : Prop := Claim7.holds Tryd.pinned (.plain (OpenSpec.ofChange fnUnsafeEndTxnRequestSpec)) fnUnsafeEndTxnRequestCard

/-- THE TIED CARD OF 'laws.FnUnsafeShareGroupDescribeRequest'. -/
def fnUnsafeShareGroupDescribeRequestCard : Claim7 := { stood := { row := fnUnsafeShareGroupDescribeRequestRow, standIns := [], harness := (true, "014182bfbd65ae40826d4bb2c6938d5ecb72de86db9cbef47dbdbbd6ec1934f7"), looks := false }, kinds := [], alts := [], laidByText := true, laidKinds := [.sentinel], laidTests := true, laidLooks := .later }
def FnUnsafeShareGroupDescribeRequestCardSaid : Prop := Claim7.holds Tryd.pinned (.plain (OpenSpec.ofChange fnUnsafeShareGroupDescribeRequestSpec)) fnUnsafeShareGroupDescribeRequestCard

/-- THE TIED CARD OF 'laws.FnUnsafeStreamsGroupDescribeRequest'. -/
def fnUnsafeStreamsGroupDescribeRequestCard : Claim7 := { stood := { row := fnUnsafeStreamsGroupDescribeRequestRow, standIns := [], harness := (true, "014182bfbd65ae40826d4bb2c6938d5ecb72de86db9cbef47dbdbbd6ec1934f7"), looks := false }, kinds := [], alts := [], laidByText := true, laidKinds := [.sentinel], laidTests := true, laidLooks := .later }
def FnUnsafeStreamsGroupDescribeRequestCardSaid : Prop := Claim7.holds Tryd.pinned (.plain (OpenSpec.ofChange fnUnsafeStreamsGroupDescribeRequestSpec)) fnUnsafeStreamsGroupDescribeRequestCard

/-- THE TIED CARD OF 'laws.FnUnsafeDeleteShareGroupOffsetsRequest'. -/
def fnUnsafeDeleteShareGroupOffsetsRequestCard : Claim7 := { stood := { row := fnUnsafeDeleteShareGroupOffsetsRequestRow, standIns := [], harness := (true, "014182bfbd65ae40826d4bb2c6938d5ecb72de86db9cbef47dbdbbd6ec1934f7"), looks := false }, kinds := [], alts := [], laidByText := true, laidKinds := [.sentinel], laidTests := true, laidLooks := .later }
def FnUnsafeDeleteShareGroupOffsetsRequestCardSaid : Prop := Claim7.holds Tryd.pinned (.plain (OpenSpec.ofChange fnUnsafeDeleteShareGroupOffsetsRequestSpec)) fnUnsafeDeleteShareGroupOffsetsRequestCard

/-- THE TIED CARD OF 'laws.FnUnsafeDescribeACLsRequest'. -/
def fnUnsafeDescribeACLsRequestCard : Claim7 := { stood := { row := fnUnsafeDescribeACLsRequestRow, standIns := [], harness := (true, "014182bfbd65ae40826d4bb2c6938d5ecb72de86db9cbef47dbdbbd6ec1934f7"), looks := false }, kinds := [], alts := [], laidByText := true, laidKinds := [.sentinel], laidTests := true, laidLooks := .later }
def FnUnsafeDescribeACLsRequestCardSaid : Prop := Claim7.holds Tryd.pinned (.plain (OpenSpec.ofChange fnUnsafeDescribeACLsRequestSpec)) fnUnsafeDescribeACLsRequestCard

/-- THE TIED CARD OF 'laws.FnUnsafeBrokerHeartbeatRequest'. -/
def fnUnsafeBrokerHeartbeatRequestCard : Claim7 := { stood := { row := fnUnsafeBrokerHeartbeatRequestRow, standIns := [], harness := (true, "014182bfbd65ae40826d4bb2c6938d5ecb72de86db9cbef47dbdbbd6ec1934f7"), looks := false }, kinds := [], alts := [], laidByText := true, laidKinds := [.sentinel], laidTests := true, laidLooks := .later }
def FnUnsafeBrokerHeartbeatRequestCardSaid : Prop := Claim7.holds Tryd.pinned (.plain (OpenSpec.ofChange fnUnsafeBrokerHeartbeatRequestSpec)) fnUnsafeBrokerHeartbeatRequestCard

/-- THE TIED CARD OF 'laws.FnUnsafeCreatePartitionsResponse'. -/
def fnUnsafeCreatePartitionsResponseCard : Claim7 := { stood := { row := fnUnsafeCreatePartitionsResponseRow, standIns := [], harness := (true, "014182bfbd65ae40826d4bb2c6938d5ecb72de86db9cbef47dbdbbd6ec1934f7"), looks := false }, kinds := [], alts := [], laidByText := true, laidKinds := [.sentinel], laidTests := true, laidLooks := .later }
def FnUnsafeCreatePartitionsResponseCardSaid : Prop := Claim7.holds Tryd.pinned (.plain (OpenSpec.ofChange fnUnsafeCreatePartitionsResponseSpec)) fnUnsafeCreatePartitionsResponseCard

/-- THE SECOND FORM's CARD OF 'laws.FnUnsafeSASLHandshakeRequest'. -/
def fnUnsafeSASLHandshakeRequestUptoCard : Claim7 := { stood := { row := fnUnsafeSASLHandshakeRequestUptoRow, standIns := [], harness := (true, "014182bfbd65ae40826d4bb2c6938d5ecb72de86db9cbef47dbdbbd6ec1934f7"), looks := false }, kinds := [], alts := [], laidByText := true, laidKinds := [.sentinel], laidTests := true, laidLooks := .later }
def FnUnsafeSASLHandshakeRequestUptoCardSaid : Prop := Claim7.holds Tryd.pinned (.plain (OpenSpec.upto fnUnsafeSASLHandshakeRequestSpec)) fnUnsafeSASLHandshakeRequestUptoCard

/-- THE SECOND FORM's CARD OF 'laws.FnUnsafeConnectMemberMetadata'. -/
def fnUnsafeConnectMemberMetadataUptoCard : Claim7 := { stood := { row := fnUnsafeConnectMemberMetadataUptoRow, standIns := [], harness := (true, "014182bfbd65ae40826d4bb2c6938d5ecb72de86db9cbef47dbdbbd6ec1934f7"), looks := false }, kinds := [], alts := [], laidByText := true, laidKinds := [.sentinel], laidTests := true, laidLooks := .later }
def FnUnsafeConnectMemberMetadataUptoCardSaid : Prop := Claim7.holds Tryd.pinned (.plain (OpenSpec.upto fnUnsafeConnectMemberMetadataSpec)) fnUnsafeConnectMemberMetadataUptoCard

/-- THE SECOND FORM's CARD OF 'laws.FnUnsafeControllerRegistrationResponse'. -/
def fnUnsafeControllerRegistrationResponseUptoCard : Claim7 := { stood := { row := fnUnsafeControllerRegistrationResponseUptoRow, standIns := [], harness := (true, "014182bfbd65ae40826d4bb2c6938d5ecb72de86db9cbef47dbdbbd6ec1934f7"), looks := false }, kinds := [], alts := [], laidByText := true, laidKinds := [.sentinel], laidTests := true, laidLooks := .later }
def FnUnsafeControllerRegistrationResponseUptoCardSaid : Prop := Claim7.holds Tryd.pinned (.plain (OpenSpec.upto fnUnsafeControllerRegistrationResponseSpec)) fnUnsafeControllerRegistrationResponseUptoCard

/-- THE SECOND FORM's CARD OF 'laws.FnUnsafeEndTxnRequest'. -/
def fnUnsafeEndTxnRequestUptoCard : Claim7 := { stood := { row := fnUnsafeEndTxnRequestUptoRow, standIns := [], harness := (true, "014182bfbd65ae40826d4bb2c6938d5ecb72de86db9cbef47dbdbbd6ec1934f7"), looks := false }, kinds := [], alts := [], laidByText := true, laidKinds := [.sentinel], laidTests := true, laidLooks := .later }
def FnUnsafeEndTxnRequestUptoCardSaid : Prop := Claim7.holds Tryd.pinned (.plain (OpenSpec.upto fnUnsafeEndTxnRequestSpec)) fnUnsafeEndTxnRequestUptoCard

/-- THE SECOND FORM's CARD OF 'laws.FnUnsafeShareGroupDescribeRequest'. -/
def fnUnsafeShareGroupDescribeRequestUptoCard : Claim7 := { stood := { row := fnUnsafeShareGroupDescribeRequestUptoRow, standIns := [], harness := (true, "014182bfbd65ae40826d4bb2c6938d5ecb72de86db9cbef47dbdbbd6ec1934f7"), looks := false }, kinds := [], alts := [], laidByText := true, laidKinds := [.sentinel], laidTests := true, laidLooks := .later }
def FnUnsafeShareGroupDescribeRequestUptoCardSaid : Prop := Claim7.holds Tryd.pinned (.plain (OpenSpec.upto fnUnsafeShareGroupDescribeRequestSpec)) fnUnsafeShareGroupDescribeRequestUptoCard

/-- THE SECOND FORM's CARD OF 'laws.FnUnsafeStreamsGroupDescribeRequest'. -/
def fnUnsafeStreamsGroupDescribeRequestUptoCard : Claim7 := { stood := { row := fnUnsafeStreamsGroupDescribeRequestUptoRow, standIns := [], harness := (true, "014182bfbd65ae40826d4bb2c6938d5ecb72de86db9cbef47dbdbbd6ec1934f7"), looks := false }, kinds := [], alts := [], laidByText := true, laidKinds := [.sentinel], laidTests := true, laidLooks := .later }
def FnUnsafeStreamsGroupDescribeRequestUptoCardSaid : Prop := Claim7.holds Tryd.pinned (.plain (OpenSpec.upto fnUnsafeStreamsGroupDescribeRequestSpec)) fnUnsafeStreamsGroupDescribeRequestUptoCard

/-- THE SECOND FORM's CARD OF 'laws.FnUnsafeDeleteShareGroupOffsetsRequest'. -/
def fnUnsafeDeleteShareGroupOffsetsRequestUptoCard : Claim7 := { stood := { row := fnUnsafeDeleteShareGroupOffsetsRequestUptoRow, standIns := [], harness := (true, "014182bfbd65ae40826d4bb2c6938d5ecb72de86db9cbef47dbdbbd6ec1934f7"), looks := false }, kinds := [], alts := [], laidByText := true, laidKinds := [.sentinel], laidTests := true, laidLooks := .later }
def FnUnsafeDeleteShareGroupOffsetsRequestUptoCardSaid : Prop := Claim7.holds Tryd.pinned (.plain (OpenSpec.upto fnUnsafeDeleteShareGroupOffsetsRequestSpec)) fnUnsafeDeleteShareGroupOffsetsRequestUptoCard

/-- THE SECOND FORM's CARD OF 'laws.FnUnsafeDescribeACLsRequest'. -/
def fnUnsafeDescribeACLsRequestUptoCard : Claim7 := { stood := { row := fnUnsafeDescribeACLsRequestUptoRow, standIns := [], harness := (true, "014182bfbd65ae40826d4bb2c6938d5ecb72de86db9cbef47dbdbbd6ec1934f7"), looks := false }, kinds := [], alts := [], laidByText := true, laidKinds := [.sentinel], laidTests := true, laidLooks := .later }
def FnUnsafeDescribeACLsRequestUptoCardSaid : Prop := Claim7.holds Tryd.pinned (.plain (OpenSpec.upto fnUnsafeDescribeACLsRequestSpec)) fnUnsafeDescribeACLsRequestUptoCard

/-- THE SECOND FORM's CARD OF 'laws.FnUnsafeBrokerHeartbeatRequest'. -/
def fnUnsafeBrokerHeartbeatRequestUptoCard : Claim7 := { stood := { row := fnUnsafeBrokerHeartbeatRequestUptoRow, standIns := [], harness := (true, "014182bfbd65ae40826d4bb2c6938d5ecb72de86db9cbef47dbdbbd6ec1934f7"), looks := false }, kinds := [], alts := [], laidByText := true, laidKinds := [.sentinel], laidTests := true, laidLooks := .later }
def FnUnsafeBrokerHeartbeatRequestUptoCardSaid : Prop := Claim7.holds Tryd.pinned (.plain (OpenSpec.upto fnUnsafeBrokerHeartbeatRequestSpec)) fnUnsafeBrokerHeartbeatRequestUptoCard

/-- THE SECOND FORM's CARD OF 'laws.FnUnsafeCreatePartitionsResponse'. -/
def fnUnsafeCreatePartitionsResponseUptoCard : Claim7 := { stood := { row := fnUnsafeCreatePartitionsResponseUptoRow, standIns := [], harness := (true, "014182bfbd65ae40826d4bb2c6938d5ecb72de86db9cbef47dbdbbd6ec1934f7"), looks := false }, kinds := [], alts := [], laidByText := true, laidKinds := [.sentinel], laidTests := true, laidLooks := .later }
def FnUnsafeCreatePartitionsResponseUptoCardSaid : Prop := Claim7.holds Tryd.pinned (.plain (OpenSpec.upto fnUnsafeCreatePartitionsResponseSpec)) fnUnsafeCreatePartitionsResponseUptoCard
end Rows
end Go.Proofs.YtboohnhpcjagnaaDoor
