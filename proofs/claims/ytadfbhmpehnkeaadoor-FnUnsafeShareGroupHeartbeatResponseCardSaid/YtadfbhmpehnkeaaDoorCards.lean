/-
  DERIVED. GIVEN WITH THE SEED: THE CARDS: each row of YtadfbhmpehnkeaaDoorRows.lean that lists a variable, with what it lists TIED to the program's text (the seventh form; the later family's looks); each row that meets fmt, with fmt's text TOLD by the authors' own Lean function (tested against real Go, not proved from fmt's source: count such statements apart). THE CARD IS WHAT COUNTS. Prove the row's statement (the work); the ties are given (YtadfbhmpehnkeaaDoorTie.lean); close each card by the builder's one call (the guide's Derived/Test/ToyasCard.lean, 'card_holds'). Laid BY PROGRAM, IN A SANDBOX (cutbox-door.mjs). By AI agents, Wed Nov 11 2026. No macro, syntax, notation, axiom, sorry.
-/
import Derived.Test.YtadfbhmpehnkeaaDoorRows
import GoSem.ClaimSeven
namespace Go.Proofs.YtadfbhmpehnkeaaDoor
namespace Rows

/-- THE TIED CARD OF 'laws.FnUnsafeCreatePartitionsResponse'. -/
def fnUnsafeCreatePartitionsResponseCard : Claim7 := { stood := { row := fnUnsafeCreatePartitionsResponseRow, standIns := [], harness := (true, "0348ea6db4ca3b15c89c99000d7392d13e66c6d0a18124edad64c3483a4801cf"), looks := false }, kinds := [], alts := [], laidByText := true, laidKinds := [.sentinel], laidTests := true, laidLooks := .later }
def FnUnsafeCreatePartitionsResponseCardSaid : Prop := Claim7.holds Tryd.pinned (.plain (OpenSpec.ofChange fnUnsafeCreatePartitionsResponseSpec)) fnUnsafeCreatePartitionsResponseCard

/-- THE TIED CARD OF 'laws.FnUnsafeDeleteGroupsResponse'. -/
def fnUnsafeDeleteGroupsResponseCard : Claim7 := { stood := { row := fnUnsafeDeleteGroupsResponseRow, standIns := [], harness := (true, "0348ea6db4ca3b15c89c99000d7392d13e66c6d0a18124edad64c3483a4801cf"), looks := false }, kinds := [], alts := [], laidByText := true, laidKinds := [.sentinel], laidTests := true, laidLooks := .later }
def FnUnsafeDeleteGroupsResponseCardSaid : Prop := Claim7.holds Tryd.pinned (.plain (OpenSpec.ofChange fnUnsafeDeleteGroupsResponseSpec)) fnUnsafeDeleteGroupsResponseCard

/-- THE TIED CARD OF 'laws.FnUnsafeAssignReplicasToDirsResponse'. -/
def fnUnsafeAssignReplicasToDirsResponseCard : Claim7 := { stood := { row := fnUnsafeAssignReplicasToDirsResponseRow, standIns := [], harness := (true, "0348ea6db4ca3b15c89c99000d7392d13e66c6d0a18124edad64c3483a4801cf"), looks := false }, kinds := [], alts := [], laidByText := true, laidKinds := [.sentinel], laidTests := true, laidLooks := .later }
def FnUnsafeAssignReplicasToDirsResponseCardSaid : Prop := Claim7.holds Tryd.pinned (.plain (OpenSpec.ofChange fnUnsafeAssignReplicasToDirsResponseSpec)) fnUnsafeAssignReplicasToDirsResponseCard

/-- THE TIED CARD OF 'laws.FnUnsafeDescribeShareGroupOffsetsRequest'. -/
def fnUnsafeDescribeShareGroupOffsetsRequestCard : Claim7 := { stood := { row := fnUnsafeDescribeShareGroupOffsetsRequestRow, standIns := [], harness := (true, "0348ea6db4ca3b15c89c99000d7392d13e66c6d0a18124edad64c3483a4801cf"), looks := false }, kinds := [], alts := [], laidByText := true, laidKinds := [.sentinel], laidTests := true, laidLooks := .later }
def FnUnsafeDescribeShareGroupOffsetsRequestCardSaid : Prop := Claim7.holds Tryd.pinned (.plain (OpenSpec.ofChange fnUnsafeDescribeShareGroupOffsetsRequestSpec)) fnUnsafeDescribeShareGroupOffsetsRequestCard

/-- THE TIED CARD OF 'laws.FnUnsafeMetadataRequest'. -/
def fnUnsafeMetadataRequestCard : Claim7 := { stood := { row := fnUnsafeMetadataRequestRow, standIns := [], harness := (true, "0348ea6db4ca3b15c89c99000d7392d13e66c6d0a18124edad64c3483a4801cf"), looks := false }, kinds := [], alts := [], laidByText := true, laidKinds := [.sentinel], laidTests := true, laidLooks := .later }
def FnUnsafeMetadataRequestCardSaid : Prop := Claim7.holds Tryd.pinned (.plain (OpenSpec.ofChange fnUnsafeMetadataRequestSpec)) fnUnsafeMetadataRequestCard

/-- THE TIED CARD OF 'laws.FnUnsafeDeleteACLsRequest'. -/
def fnUnsafeDeleteACLsRequestCard : Claim7 := { stood := { row := fnUnsafeDeleteACLsRequestRow, standIns := [], harness := (true, "0348ea6db4ca3b15c89c99000d7392d13e66c6d0a18124edad64c3483a4801cf"), looks := false }, kinds := [], alts := [], laidByText := true, laidKinds := [.sentinel], laidTests := true, laidLooks := .later }
def FnUnsafeDeleteACLsRequestCardSaid : Prop := Claim7.holds Tryd.pinned (.plain (OpenSpec.ofChange fnUnsafeDeleteACLsRequestSpec)) fnUnsafeDeleteACLsRequestCard

/-- THE TIED CARD OF 'laws.FnUnsafeShareGroupHeartbeatResponse'. -/
def fnUnsafeShareGroupHeartbeatResponseCard : Claim7 := { stood := { row := fnUnsafeShareGroupHeartbeatResponseRow, standIns := [], harness := (true, "0348ea6db4ca3b15c89c99000d7392d13e66c6d0a18124edad64c3483a4801cf"), looks := false }, kinds := [], alts := [], laidByText := true, laidKinds := [.sentinel], laidTests := true, laidLooks := .later }
def FnUnsafeShareGroupHeartbeatResponseCardSaid : Prop := Claim7.holds Tryd.pinned (.plain (OpenSpec.ofChange fnUnsafeShareGroupHeartbeatResponseSpec)) fnUnsafeShareGroupHeartbeatResponseCard

/-- THE TIED CARD OF 'laws.FnUnsafeListPartitionReassignmentsResponse'. -/
def fnUnsafeListPartitionReassignmentsResponseCard : Claim7 := { stood := { row := fnUnsafeListPartitionReassignmentsResponseRow, standIns := [], harness := (true, "0348ea6db4ca3b15c89c99000d7392d13e66c6d0a18124edad64c3483a4801cf"), looks := false }, kinds := [], alts := [], laidByText := true, laidKinds := [.sentinel], laidTests := true, laidLooks := .later }
def FnUnsafeListPartitionReassignmentsResponseCardSaid : Prop := Claim7.holds Tryd.pinned (.plain (OpenSpec.ofChange fnUnsafeListPartitionReassignmentsResponseSpec)) fnUnsafeListPartitionReassignmentsResponseCard

/-- THE TIED CARD OF 'laws.FnUnsafeAddPartitionsToTxnRequest'. -/
def fnUnsafeAddPartitionsToTxnRequestCard : Claim7 := { stood := { row := fnUnsafeAddPartitionsToTxnRequestRow, standIns := [], harness := (true, "0348ea6db4ca3b15c89c99000d7392d13e66c6d0a18124edad64c3483a4801cf"), looks := false }, kinds := [], alts := [], laidByText := true, laidKinds := [.sentinel], laidTests := true, laidLooks := .later }
def FnUnsafeAddPartitionsToTxnRequestCardSaid : Prop := Claim7.holds Tryd.pinned (.plain (OpenSpec.ofChange fnUnsafeAddPartitionsToTxnRequestSpec)) fnUnsafeAddPartitionsToTxnRequestCard

/-- THE TIED CARD OF 'laws.FnUnsafeBrokerHeartbeatRequest'. -/
def fnUnsafeBrokerHeartbeatRequestCard : Claim7 := { stood := { row := fnUnsafeBrokerHeartbeatRequestRow, standIns := [], harness := (true, "0348ea6db4ca3b15c89c99000d7392d13e66c6d0a18124edad64c3483a4801cf"), looks := false }, kinds := [], alts := [], laidByText := true, laidKinds := [.sentinel], laidTests := true, laidLooks := .later }
def FnUnsafeBrokerHeartbeatRequestCardSaid : Prop := Claim7.holds Tryd.pinned (.plain (OpenSpec.ofChange fnUnsafeBrokerHeartbeatRequestSpec)) fnUnsafeBrokerHeartbeatRequestCard

/-- THE SECOND FORM's CARD OF 'laws.FnUnsafeCreatePartitionsResponse'. -/
def fnUnsafeCreatePartitionsResponseUptoCard : Claim7 := { stood := { row := fnUnsafeCreatePartitionsResponseUptoRow, standIns := [], harness := (true, "0348ea6db4ca3b15c89c99000d7392d13e66c6d0a18124edad64c3483a4801cf"), looks := false }, kinds := [], alts := [], laidByText := true, laidKinds := [.sentinel], laidTests := true, laidLooks := .later }
def FnUnsafeCreatePartitionsResponseUptoCardSaid : Prop := Claim7.holds Tryd.pinned (.plain (OpenSpec.upto fnUnsafeCreatePartitionsResponseSpec)) fnUnsafeCreatePartitionsResponseUptoCard

/-- THE SECOND FORM's CARD OF 'laws.FnUnsafeDeleteGroupsResponse'. -/
def fnUnsafeDeleteGroupsResponseUptoCard : Claim7 := { stood := { row := fnUnsafeDeleteGroupsResponseUptoRow, standIns := [], harness := (true, "0348ea6db4ca3b15c89c99000d7392d13e66c6d0a18124edad64c3483a4801cf"), looks := false }, kinds := [], alts := [], laidByText := true, laidKinds := [.sentinel], laidTests := true, laidLooks := .later }
def FnUnsafeDeleteGroupsResponseUptoCardSaid : Prop := Claim7.holds Tryd.pinned (.plain (OpenSpec.upto fnUnsafeDeleteGroupsResponseSpec)) fnUnsafeDeleteGroupsResponseUptoCard

/-- THE SECOND FORM's CARD OF 'laws.FnUnsafeAssignReplicasToDirsResponse'. -/
def fnUnsafeAssignReplicasToDirsResponseUptoCard : Claim7 := { stood := { row := fnUnsafeAssignReplicasToDirsResponseUptoRow, standIns := [], harness := (true, "0348ea6db4ca3b15c89c99000d7392d13e66c6d0a18124edad64c3483a4801cf"), looks := false }, kinds := [], alts := [], laidByText := true, laidKinds := [.sentinel], laidTests := true, laidLooks := .later }
def FnUnsafeAssignReplicasToDirsResponseUptoCardSaid : Prop := Claim7.holds Tryd.pinned (.plain (OpenSpec.upto fnUnsafeAssignReplicasToDirsResponseSpec)) fnUnsafeAssignReplicasToDirsResponseUptoCard

/-- THE SECOND FORM's CARD OF 'laws.FnUnsafeDescribeShareGroupOffsetsRequest'. -/
def fnUnsafeDescribeShareGroupOffsetsRequestUptoCard : Claim7 := { stood := { row := fnUnsafeDescribeShareGroupOffsetsRequestUptoRow, standIns := [], harness := (true, "0348ea6db4ca3b15c89c99000d7392d13e66c6d0a18124edad64c3483a4801cf"), looks := false }, kinds := [], alts := [], laidByText := true, laidKinds := [.sentinel], laidTests := true, laidLooks := .later }
def FnUnsafeDescribeShareGroupOffsetsRequestUptoCardSaid : Prop := Claim7.holds Tryd.pinned (.plain (OpenSpec.upto fnUnsafeDescribeShareGroupOffsetsRequestSpec)) fnUnsafeDescribeShareGroupOffsetsRequestUptoCard

/-- THE SECOND FORM's CARD OF 'laws.FnUnsafeMetadataRequest'. -/
def fnUnsafeMetadataRequestUptoCard : Claim7 := { stood := { row := fnUnsafeMetadataRequestUptoRow, standIns := [], harness := (true, "0348ea6db4ca3b15c89c99000d7392d13e66c6d0a18124edad64c3483a4801cf"), looks := false }, kinds := [], alts := [], laidByText := true, laidKinds := [.sentinel], laidTests := true, laidLooks := .later }
def FnUnsafeMetadataRequestUptoCardSaid : Prop := Claim7.holds Tryd.pinned (.plain (OpenSpec.upto fnUnsafeMetadataRequestSpec)) fnUnsafeMetadataRequestUptoCard

/-- THE SECOND FORM's CARD OF 'laws.FnUnsafeDeleteACLsRequest'. -/
def fnUnsafeDeleteACLsRequestUptoCard : Claim7 := { stood := { row := fnUnsafeDeleteACLsRequestUptoRow, standIns := [], harness := (true, "0348ea6db4ca3b15c89c99000d7392d13e66c6d0a18124edad64c3483a4801cf"), looks := false }, kinds := [], alts := [], laidByText := true, laidKinds := [.sentinel], laidTests := true, laidLooks := .later }
def FnUnsafeDeleteACLsRequestUptoCardSaid : Prop := Claim7.holds Tryd.pinned (.plain (OpenSpec.upto fnUnsafeDeleteACLsRequestSpec)) fnUnsafeDeleteACLsRequestUptoCard

/-- THE SECOND FORM's CARD OF 'laws.FnUnsafeShareGroupHeartbeatResponse'. -/
def fnUnsafeShareGroupHeartbeatResponseUptoCard : Claim7 := { stood := { row := fnUnsafeShareGroupHeartbeatResponseUptoRow, standIns := [], harness := (true, "0348ea6db4ca3b15c89c99000d7392d13e66c6d0a18124edad64c3483a4801cf"), looks := false }, kinds := [], alts := [], laidByText := true, laidKinds := [.sentinel], laidTests := true, laidLooks := .later }
def FnUnsafeShareGroupHeartbeatResponseUptoCardSaid : Prop := Claim7.holds Tryd.pinned (.plain (OpenSpec.upto fnUnsafeShareGroupHeartbeatResponseSpec)) fnUnsafeShareGroupHeartbeatResponseUptoCard

/-- THE SECOND FORM's CARD OF 'laws.FnUnsafeListPartitionReassignmentsResponse'. -/
def fnUnsafeListPartitionReassignmentsResponseUptoCard : Claim7 := { stood := { row := fnUnsafeListPartitionReassignmentsResponseUptoRow, standIns := [], harness := (true, "0348ea6db4ca3b15c89c99000d7392d13e66c6d0a18124edad64c3483a4801cf"), looks := false }, kinds := [], alts := [], laidByText := true, laidKinds := [.sentinel], laidTests := true, laidLooks := .later }
def FnUnsafeListPartitionReassignmentsResponseUptoCardSaid : Prop := Claim7.holds Tryd.pinned (.plain (OpenSpec.upto fnUnsafeListPartitionReassignmentsResponseSpec)) fnUnsafeListPartitionReassignmentsResponseUptoCard

/-- THE SECOND FORM's CARD OF 'laws.FnUnsafeAddPartitionsToTxnRequest'. -/
def fnUnsafeAddPartitionsToTxnRequestUptoCard : Claim7 := { stood := { row := fnUnsafeAddPartitionsToTxnRequestUptoRow, standIns := [], harness := (true, "0348ea6db4ca3b15c89c99000d7392d13e66c6d0a18124edad64c3483a4801cf"), looks := false }, kinds := [], alts := [], laidByText := true, laidKinds := [.sentinel], laidTests := true, laidLooks := .later }
def FnUnsafeAddPartitionsToTxnRequestUptoCardSaid : Prop := Claim7.holds Tryd.pinned (.plain (OpenSpec.upto fnUnsafeAddPartitionsToTxnRequestSpec)) fnUnsafeAddPartitionsToTxnRequestUptoCard

/-- THE SECOND FORM's CARD OF 'laws.FnUnsafeBrokerHeartbeatRequest'. -/
def fnUnsafeBrokerHeartbeatRequestUptoCard : Claim7 := { stood := { row := fnUnsafeBrokerHeartbeatRequestUptoRow, standIns := [], harness := (true, "0348ea6db4ca3b15c89c99000d7392d13e66c6d0a18124edad64c3483a4801cf"), looks := false }, kinds := [], alts := [], laidByText := true, laidKinds := [.sentinel], laidTests := true, laidLooks := .later }
def FnUnsafeBrokerHeartbeatRequestUptoCardSaid : Prop := Claim7.holds Tryd.pinned (.plain (OpenSpec.upto fnUnsafeBrokerHeartbeatRequestSpec)) fnUnsafeBrokerHeartbeatRequestUptoCard
end Rows
end Go.Proofs.YtadfbhmpehnkeaaDoor
