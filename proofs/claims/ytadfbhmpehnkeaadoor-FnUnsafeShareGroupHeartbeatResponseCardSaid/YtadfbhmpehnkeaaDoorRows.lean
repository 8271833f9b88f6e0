/-
  NARROWER THAN 'FOR EVERY INPUT', by the rows' own cells (each row's printed sentence says how): FnUnsafeCreatePartitionsResponse: laid · FnUnsafeDeleteGroupsResponse: laid · FnUnsafeAssignReplicasToDirsResponse: laid · FnUnsafeDescribeShareGroupOffsetsRequest: laid · FnUnsafeMetadataRequest: laid · FnUnsafeDeleteACLsRequest: laid · FnUnsafeShareGroupHeartbeatResponse: laid · FnUnsafeListPartitionReassignmentsResponse: laid · FnUnsafeAddPartitionsToTxnRequest: laid · FnUnsafeBrokerHeartbeatRequest: laid.
  DERIVED. THE GIVEN ROWS OF THIS SEAT. 10 by the template 'for every input the law returns true; each argument reads behind the call as it read before'; 0 by the template 'total and deterministic' (their statements: YtadfbhmpehnkeaaDoorTotals.lean).
  GIVEN WITH THE SEED: the statements are not yours to turn. If you find one false, say at which input.
  Laid BY PROGRAM, IN A SANDBOX (cutbox-rows.mjs): the forced cells as the released guide's own fill.sh prints them over the translation 57cfd7270af3ec1b… (all of the seat's roots in one cut). By AI agents, Wed Nov 11 2026. No macro, syntax, notation, axiom, sorry.
-/
import Derived.Test.YtadfbhmpehnkeaaDoorChecked
import GoSem.Claim
import GoSem.ClaimJoined
import GoSem.ClaimMapViews
import Derived.JoinedTies
import Derived.KernelRfl
namespace Go.Proofs.YtadfbhmpehnkeaaDoor
/- THE CELL 'sum', in the pinned program and in every row, IS THE sha256 OF THE DUMP (.gsa) THAT YtadfbhmpehnkeaaDoorProg.lean LOADS. Nothing in Lean hashes anything: it is a label: what it is worth is what the hold of that sum in a sandbox is worth. -/
noncomputable def Tryd.pinned : Pinned := { name := "ytadfbhmpehnkeaadoor", sum := "57cfd7270af3ec1b7a8741fe97a419012456deb741199e423806ed90bab3c9da", checked := Tryd.checked }
namespace Rows
def none {H : Type} : Left H := { results := [], args := [] }

/- WHAT THE LISTED PACKAGE-LEVEL VARIABLES READ AS WHEN THE CALL BEGINS. Each datum BY PROGRAM (the guide's laid-datum.mjs) off the statement by which the dump's own 'gosem.cut.vars' lays the variable. In a bare row this is a premise. The card (YtadfbhmpehnkeaaDoorCards.lean) ties it to the program's text. -/
def laid_pub_mailsack_pub_kmsg_inner_kbin_ErrNotEnoughData {H : Type} : DataW H := .iface "*errors.errorString" (.ptr (.agg [.lit (.string [114, 101, 115, 112, 111, 110, 115, 101, 32, 100, 105, 100, 32, 110, 111, 116, 32, 99, 111, 110, 116, 97, 105, 110, 32, 101, 110, 111, 117, 103, 104, 32, 100, 97, 116, 97, 32, 116, 111, 32, 98, 101, 32, 118, 97, 108, 105, 100])]))

/-- 'laws.FnUnsafeCreatePartitionsResponse': WHATEVER THE INPUT: true; the input reads as it did. -/
def fnUnsafeCreatePartitionsResponseSpec : ChangeSpec := { name := "fnUnsafeCreatePartitionsResponse", fn := fun _ => fun
  | [d1, d2] => { results := [.lit (.bool true)], args := [d1, d2] }
  | _ => none }
def fnUnsafeCreatePartitionsResponseRow : OpenClaim := { program := "ytadfbhmpehnkeaadoor", sum := "57cfd7270af3ec1b7a8741fe97a419012456deb741199e423806ed90bab3c9da", func := "pub-mailsack/laws.FnUnsafeCreatePartitionsResponse", spec := "fnUnsafeCreatePartitionsResponse", inPlace := ["internal/reflectlite.ValueOf", "internal/reflectlite.Swapper", "(internal/reflectlite.Value).Len"], unfollowed := true, recurses := true, named := ["encoding/binary.BigEndian", "pub-mailsack/pub/kmsg/inner/kbin.ErrNotEnoughData"], apart := false, laid := [("pub-mailsack/pub/kmsg/inner/kbin.ErrNotEnoughData", laid_pub_mailsack_pub_kmsg_inner_kbin_ErrNotEnoughData)] }
def FnUnsafeCreatePartitionsResponseSaid : Prop := fnUnsafeCreatePartitionsResponseRow.holds Tryd.pinned (OpenSpec.ofChange fnUnsafeCreatePartitionsResponseSpec)

/-- ITS FALSE NEIGHBOUR: 'it returns false'. Refute it at one input. -/
def fnUnsafeCreatePartitionsResponseWrong : ChangeSpec := { name := "fnUnsafeCreatePartitionsResponse", fn := fun _ => fun
  | [d1, d2] => { results := [.lit (.bool false)], args := [d1, d2] }
  | _ => none }
def FnUnsafeCreatePartitionsResponseWrongFalsely : Prop := fnUnsafeCreatePartitionsResponseRow.holds Tryd.pinned (OpenSpec.ofChange fnUnsafeCreatePartitionsResponseWrong)

/-- 'laws.FnUnsafeDeleteGroupsResponse': WHATEVER THE INPUT: true; the input reads as it did. -/
def fnUnsafeDeleteGroupsResponseSpec : ChangeSpec := { name := "fnUnsafeDeleteGroupsResponse", fn := fun _ => fun
  | [d1, d2] => { results := [.lit (.bool true)], args := [d1, d2] }
  | _ => none }
def fnUnsafeDeleteGroupsResponseRow : OpenClaim := { program := "ytadfbhmpehnkeaadoor", sum := "57cfd7270af3ec1b7a8741fe97a419012456deb741199e423806ed90bab3c9da", func := "pub-mailsack/laws.FnUnsafeDeleteGroupsResponse", spec := "fnUnsafeDeleteGroupsResponse", inPlace := ["internal/reflectlite.ValueOf", "internal/reflectlite.Swapper", "(internal/reflectlite.Value).Len"], unfollowed := true, recurses := true, named := ["encoding/binary.BigEndian", "pub-mailsack/pub/kmsg/inner/kbin.ErrNotEnoughData"], apart := false, laid := [("pub-mailsack/pub/kmsg/inner/kbin.ErrNotEnoughData", laid_pub_mailsack_pub_kmsg_inner_kbin_ErrNotEnoughData)] }
def FnUnsafeDeleteGroupsResponseSaid : Prop := fnUnsafeDeleteGroupsResponseRow.holds Tryd.pinned (OpenSpec.ofChange fnUnsafeDeleteGroupsResponseSpec)

/-- ITS FALSE NEIGHBOUR: 'it returns false'. Refute it at one input. -/
def fnUnsafeDeleteGroupsResponseWrong : ChangeSpec := { name := "fnUnsafeDeleteGroupsResponse", fn := fun _ => fun
  | [d1, d2] => { results := [.lit (.bool false)], args := [d1, d2] }
  | _ => none }
def FnUnsafeDeleteGroupsResponseWrongFalsely : Prop := fnUnsafeDeleteGroupsResponseRow.holds Tryd.pinned (OpenSpec.ofChange fnUnsafeDeleteGroupsResponseWrong)

/-- 'laws.FnUnsafeAssignReplicasToDirsResponse': WHATEVER THE INPUT: true; the input reads as it did. -/
def fnUnsafeAssignReplicasToDirsResponseSpec : ChangeSpec := { name := "fnUnsafeAssignReplicasToDirsResponse", fn := fun _ => fun
  | [d1, d2] => { results := [.lit (.bool true)], args := [d1, d2] }
  | _ => none }
def fnUnsafeAssignReplicasToDirsResponseRow : OpenClaim := { program := "ytadfbhmpehnkeaadoor", sum := "57cfd7270af3ec1b7a8741fe97a419012456deb741199e423806ed90bab3c9da", func := "pub-mailsack/laws.FnUnsafeAssignReplicasToDirsResponse", spec := "fnUnsafeAssignReplicasToDirsResponse", inPlace := ["internal/reflectlite.ValueOf", "internal/reflectlite.Swapper", "(internal/reflectlite.Value).Len"], unfollowed := true, recurses := true, named := ["encoding/binary.BigEndian", "pub-mailsack/pub/kmsg/inner/kbin.ErrNotEnoughData"], apart := false, laid := [("pub-mailsack/pub/kmsg/inner/kbin.ErrNotEnoughData", laid_pub_mailsack_pub_kmsg_inner_kbin_ErrNotEnoughData)] }
def FnUnsafeAssignReplicasToDirsResponseSaid : Prop := fnUnsafeAssignReplicasToDirsResponseRow.holds Tryd.pinned (OpenSpec.ofChange fnUnsafeAssignReplicasToDirsResponseSpec)

/-- ITS FALSE NEIGHBOUR: 'it returns false'. Refute it at one input. -/
def fnUnsafeAssignReplicasToDirsResponseWrong : ChangeSpec := { name := "fnUnsafeAssignReplicasToDirsResponse", fn := fun _ => fun
  | [d1, d2] => { results := [.lit (.bool false)], args := [d1, d2] }
  | _ => none }
def FnUnsafeAssignReplicasToDirsResponseWrongFalsely : Prop := fnUnsafeAssignReplicasToDirsResponseRow.holds Tryd.pinned (OpenSpec.ofChange fnUnsafeAssignReplicasToDirsResponseWrong)

/-- 'laws.FnUnsafeDescribeShareGroupOffsetsRequest': WHATEVER THE INPUT: true; the input reads as it did. -/
def fnUnsafeDescribeShareGroupOffsetsRequestSpec : ChangeSpec := { name := "fnUnsafeDescribeShareGroupOffsetsRequest", fn := fun _ => fun
  | [d1, d2] => { results := [.lit (.bool true)], args := [d1, d2] }
  | _ => none }
def fnUnsafeDescribeShareGroupOffsetsRequestRow : OpenClaim := { program := "ytadfbhmpehnkeaadoor", sum := "57cfd7270af3ec1b7a8741fe97a419012456deb741199e423806ed90bab3c9da", func := "pub-mailsack/laws.FnUnsafeDescribeShareGroupOffsetsRequest", spec := "fnUnsafeDescribeShareGroupOffsetsRequest", inPlace := ["internal/reflectlite.ValueOf", "internal/reflectlite.Swapper", "(internal/reflectlite.Value).Len"], unfollowed := true, recurses := true, named := ["encoding/binary.BigEndian", "pub-mailsack/pub/kmsg/inner/kbin.ErrNotEnoughData"], apart := false, laid := [("pub-mailsack/pub/kmsg/inner/kbin.ErrNotEnoughData", laid_pub_mailsack_pub_kmsg_inner_kbin_ErrNotEnoughData)] }
def FnUnsafeDescribeShareGroupOffsetsRequestSaid : Prop := fnUnsafeDescribeShareGroupOffsetsRequestRow.holds Tryd.pinned (OpenSpec.ofChange fnUnsafeDescribeShareGroupOffsetsRequestSpec)

/-- ITS FALSE NEIGHBOUR: 'it returns false'. Refute it at one input. -/
def fnUnsafeDescribeShareGroupOffsetsRequestWrong : ChangeSpec := { name := "fnUnsafeDescribeShareGroupOffsetsRequest", fn := fun _ => fun
  | [d1, d2] => { results := [.lit (.bool false)], args := [d1, d2] }
  | _ => none }
def FnUnsafeDescribeShareGroupOffsetsRequestWrongFalsely : Prop := fnUnsafeDescribeShareGroupOffsetsRequestRow.holds Tryd.pinned (OpenSpec.ofChange fnUnsafeDescribeShareGroupOffsetsRequestWrong)

/-- 'laws.FnUnsafeMetadataRequest': WHATEVER THE INPUT: true; the input reads as it did. -/
def fnUnsafeMetadataRequestSpec : ChangeSpec := { name := "fnUnsafeMetadataRequest", fn := fun _ => fun
  | [d1, d2] => { results := [.lit (.bool true)], args := [d1, d2] }
  | _ => none }
def fnUnsafeMetadataRequestRow : OpenClaim := { program := "ytadfbhmpehnkeaadoor", sum := "57cfd7270af3ec1b7a8741fe97a419012456deb741199e423806ed90bab3c9da", func := "pub-mailsack/laws.FnUnsafeMetadataRequest", spec := "fnUnsafeMetadataRequest", inPlace := ["internal/reflectlite.ValueOf", "internal/reflectlite.Swapper", "(internal/reflectlite.Value).Len"], unfollowed := true, recurses := true, named := ["encoding/binary.BigEndian", "pub-mailsack/pub/kmsg/inner/kbin.ErrNotEnoughData"], apart := false, laid := [("pub-mailsack/pub/kmsg/inner/kbin.ErrNotEnoughData", laid_pub_mailsack_pub_kmsg_inner_kbin_ErrNotEnoughData)] }
def FnUnsafeMetadataRequestSaid : Prop := fnUnsafeMetadataRequestRow.holds Tryd.pinned (OpenSpec.ofChange fnUnsafeMetadataRequestSpec)

/-- ITS FALSE NEIGHBOUR: 'it returns false'. Refute it at one input. -/
def fnUnsafeMetadataRequestWrong : ChangeSpec := { name := "fnUnsafeMetadataRequest", fn := fun _ => fun
  | [d1, d2] => { results := [.lit (.bool false)], args := [d1, d2] }
  | _ => none }
def FnUnsafeMetadataRequestWrongFalsely : Prop := fnUnsafeMetadataRequestRow.holds Tryd.pinned (OpenSpec.ofChange fnUnsafeMetadataRequestWrong)

/-- 'laws.FnUnsafeDeleteACLsRequest': WHATEVER THE INPUT: true; the input reads as it did. -/
def fnUnsafeDeleteACLsRequestSpec : ChangeSpec := { name := "fnUnsafeDeleteACLsRequest", fn := fun _ => fun
  | [d1, d2] => { results := [.lit (.bool true)], args := [d1, d2] }
  | _ => none }
def fnUnsafeDeleteACLsRequestRow : OpenClaim := { program := "ytadfbhmpehnkeaadoor", sum := "57cfd7270af3ec1b7a8741fe97a419012456deb741199e423806ed90bab3c9da", func := "pub-mailsack/laws.FnUnsafeDeleteACLsRequest", spec := "fnUnsafeDeleteACLsRequest", inPlace := ["internal/reflectlite.ValueOf", "internal/reflectlite.Swapper", "(internal/reflectlite.Value).Len"], unfollowed := true, recurses := true, named := ["encoding/binary.BigEndian", "pub-mailsack/pub/kmsg/inner/kbin.ErrNotEnoughData"], apart := false, laid := [("pub-mailsack/pub/kmsg/inner/kbin.ErrNotEnoughData", laid_pub_mailsack_pub_kmsg_inner_kbin_ErrNotEnoughData)] }
def FnUnsafeDeleteACLsRequestSaid : Prop := fnUnsafeDeleteACLsRequestRow.holds Tryd.pinned (OpenSpec.ofChange fnUnsafeDeleteACLsRequestSpec)

/-- ITS FALSE NEIGHBOUR: 'it returns false'. Refute it at one input. -/
def fnUnsafeDeleteACLsRequestWrong : ChangeSpec := { name := "fnUnsafeDeleteACLsRequest", fn := fun _ => fun
  | [d1, d2] => { results := [.lit (.bool false)], args := [d1, d2] }
  | _ => none }
def FnUnsafeDeleteACLsRequestWrongFalsely : Prop := fnUnsafeDeleteACLsRequestRow.holds Tryd.pinned (OpenSpec.ofChange fnUnsafeDeleteACLsRequestWrong)

/-- 'laws.FnUnsafeShareGroupHeartbeatResponse': WHATEVER THE INPUT: true; the input reads as it did. -/
def fnUnsafeShareGroupHeartbeatResponseSpec : ChangeSpec := { name := "fnUnsafeShareGroupHeartbeatResponse", fn := fun _ => fun
  | [d1, d2] => { results := [.lit (.bool true)], args := [d1, d2] }
  | _ => none }
def fnUnsafeShareGroupHeartbeatResponseRow : OpenClaim := { program := "ytadfbhmpehnkeaadoor", sum := "57cfd7270af3ec1b7a8741fe97a419012456deb741199e423806ed90bab3c9da", func := "pub-mailsack/laws.FnUnsafeShareGroupHeartbeatResponse", spec := "fnUnsafeShareGroupHeartbeatResponse", inPlace := ["internal/reflectlite.ValueOf", "internal/reflectlite.Swapper", "(internal/reflectlite.Value).Len"], unfollowed := true, recurses := true, named := ["encoding/binary.BigEndian", "pub-mailsack/pub/kmsg/inner/kbin.ErrNotEnoughData"], apart := false, laid := [("pub-mailsack/pub/kmsg/inner/kbin.ErrNotEnoughData", laid_pub_mailsack_pub_kmsg_inner_kbin_ErrNotEnoughData)] }
def FnUnsafeShareGroupHeartbeatResponseSaid : Prop := fnUnsafeShareGroupHeartbeatResponseRow.holds Tryd.pinned (OpenSpec.ofChange fnUnsafeShareGroupHeartbeatResponseSpec)

/-- ITS FALSE NEIGHBOUR: 'it returns false'. Refute it at one input. -/
def fnUnsafeShareGroupHeartbeatResponseWrong : ChangeSpec := { name := "fnUnsafeShareGroupHeartbeatResponse", fn := fun _ => fun
  | [d1, d2] => { results := [.lit (.bool false)], args := [d1, d2] }
  | _ => none }
def FnUnsafeShareGroupHeartbeatResponseWrongFalsely : Prop := fnUnsafeShareGroupHeartbeatResponseRow.holds Tryd.pinned (OpenSpec.ofChange fnUnsafeShareGroupHeartbeatResponseWrong)

/-- 'laws.FnUnsafeListPartitionReassignmentsResponse': WHATEVER THE INPUT: true; the input reads as it did. -/
def fnUnsafeListPartitionReassignmentsResponseSpec : ChangeSpec := { name := "fnUnsafeListPartitionReassignmentsResponse", fn := fun _ => fun
  | [d1, d2] => { results := [.lit (.bool true)], args := [d1, d2] }
  | _ => none }
def fnUnsafeListPartitionReassignmentsResponseRow : OpenClaim := { program := "ytadfbhmpehnkeaadoor", sum := "57cfd7270af3ec1b7a8741fe97a419012456deb741199e423806ed90bab3c9da", func := "pub-mailsack/laws.FnUnsafeListPartitionReassignmentsResponse", spec := "fnUnsafeListPartitionReassignmentsResponse", inPlace := ["internal/reflectlite.ValueOf", "internal/reflectlite.Swapper", "(internal/reflectlite.Value).Len"], unfollowed := true, recurses := true, named := ["encoding/binary.BigEndian", "pub-mailsack/pub/kmsg/inner/kbin.ErrNotEnoughData"], apart := false, laid := [("pub-mailsack/pub/kmsg/inner/kbin.ErrNotEnoughData", laid_pub_mailsack_pub_kmsg_inner_kbin_ErrNotEnoughData)] }
def FnUnsafeListPartitionReassignmentsResponseSaid : Prop := fnUnsafeListPartitionReassignmentsResponseRow.holds Tryd.pinned (OpenSpec.ofChange fnUnsafeListPartitionReassignmentsResponseSpec)

/-- ITS FALSE NEIGHBOUR: 'it returns false'. Refute it at one input. -/
def fnUnsafeListPartitionReassignmentsResponseWrong : ChangeSpec := { name := "fnUnsafeListPartitionReassignmentsResponse", fn := fun _ => fun
  | [d1, d2] => { results := [.lit (.bool false)], args := [d1, d2] }
  | _ => none }
def FnUnsafeListPartitionReassignmentsResponseWrongFalsely : Prop := fnUnsafeListPartitionReassignmentsResponseRow.holds Tryd.pinned (OpenSpec.ofChange fnUnsafeListPartitionReassignmentsResponseWrong)

/-- 'laws.FnUnsafeAddPartitionsToTxnRequest': WHATEVER THE INPUT: true; the input reads as it did. -/
def fnUnsafeAddPartitionsToTxnRequestSpec : ChangeSpec := { name := "fnUnsafeAddPartitionsToTxnRequest", fn := fun _ => fun
  | [d1, d2] => { results := [.lit (.bool true)], args := [d1, d2] }
  | _ => none }
def fnUnsafeAddPartitionsToTxnRequestRow : OpenClaim := { program := "ytadfbhmpehnkeaadoor", sum := "57cfd7270af3ec1b7a8741fe97a419012456deb741199e423806ed90bab3c9da", func := "pub-mailsack/laws.FnUnsafeAddPartitionsToTxnRequest", spec := "fnUnsafeAddPartitionsToTxnRequest", inPlace := ["internal/reflectlite.ValueOf", "internal/reflectlite.Swapper", "(internal/reflectlite.Value).Len"], unfollowed := true, recurses := true, named := ["encoding/binary.BigEndian", "pub-mailsack/pub/kmsg/inner/kbin.ErrNotEnoughData"], apart := false, laid := [("pub-mailsack/pub/kmsg/inner/kbin.ErrNotEnoughData", laid_pub_mailsack_pub_kmsg_inner_kbin_ErrNotEnoughData)] }
def FnUnsafeAddPartitionsToTxnRequestSaid : Prop := fnUnsafeAddPartitionsToTxnRequestRow.holds Tryd.pinned (OpenSpec.ofChange fnUnsafeAddPartitionsToTxnRequestSpec)

/-- ITS FALSE NEIGHBOUR: 'it returns false'. Refute it at one input. -/
def fnUnsafeAddPartitionsToTxnRequestWrong : ChangeSpec := { name := "fnUnsafeAddPartitionsToTxnRequest", fn := fun _ => fun
  | [d1, d2] => { results := [.lit (.bool false)], args := [d1, d2] }
  | _ => none }
def FnUnsafeAddPartitionsToTxnRequestWrongFalsely : Prop := fnUnsafeAddPartitionsToTxnRequestRow.holds Tryd.pinned (OpenSpec.ofChange fnUnsafeAddPartitionsToTxnRequestWrong)

/-- 'laws.FnUnsafeBrokerHeartbeatRequest': WHATEVER THE INPUT: true; the input reads as it did. -/
def fnUnsafeBrokerHeartbeatRequestSpec : ChangeSpec := { name := "fnUnsafeBrokerHeartbeatRequest", fn := fun _ => fun
  | [d1, d2] => { results := [.lit (.bool true)], args := [d1, d2] }
  | _ => none }
def fnUnsafeBrokerHeartbeatRequestRow : OpenClaim := { program := "ytadfbhmpehnkeaadoor", sum := "57cfd7270af3ec1b7a8741fe97a419012456deb741199e423806ed90bab3c9da", func := "pub-mailsack/laws.FnUnsafeBrokerHeartbeatRequest", spec := "fnUnsafeBrokerHeartbeatRequest", inPlace := ["internal/reflectlite.ValueOf", "internal/reflectlite.Swapper", "(internal/reflectlite.Value).Len"], unfollowed := true, recurses := true, named := ["encoding/binary.BigEndian", "pub-mailsack/pub/kmsg/inner/kbin.ErrNotEnoughData"], apart := false, laid := [("pub-mailsack/pub/kmsg/inner/kbin.ErrNotEnoughData", laid_pub_mailsack_pub_kmsg_inner_kbin_ErrNotEnoughData)] }
def FnUnsafeBrokerHeartbeatRequestSaid : Prop := fnUnsafeBrokerHeartbeatRequestRow.holds Tryd.pinned (OpenSpec.ofChange fnUnsafeBrokerHeartbeatRequestSpec)

/-- ITS FALSE NEIGHBOUR: 'it returns false'. Refute it at one input. -/
def fnUnsafeBrokerHeartbeatRequestWrong : ChangeSpec := { name := "fnUnsafeBrokerHeartbeatRequest", fn := fun _ => fun
  | [d1, d2] => { results := [.lit (.bool false)], args := [d1, d2] }
  | _ => none }
def FnUnsafeBrokerHeartbeatRequestWrongFalsely : Prop := fnUnsafeBrokerHeartbeatRequestRow.holds Tryd.pinned (OpenSpec.ofChange fnUnsafeBrokerHeartbeatRequestWrong)

/- THE SECOND FORM. 'bulk': how many values and letters a reading holds, each counted each time it is reached (what is shared counts as often as it is met; a slice's spare places count too). A statement '..UptoSaid' is the law's where the arguments, and the package variables that the reading takes, are together of bulk at most 1048576: NARROWER than '..Said'. Prove '..Said' where nothing that the law and all that it calls make is longer than what came in: it says more and counts as full. Else prove '..UptoSaid'. A law counts once. -/
mutual
def uptoBulk {H : Type} : DataW H → Nat
  | .lit (.string bytes) => bytes.length + 1
  | .lit _ => 1
  | .nil => 1
  | .ptr d => uptoBulk d + 1
  | .slice elems spare => uptoBulkAll elems + uptoBulkAll spare + 1
  | .agg parts => uptoBulkAll parts + 1
  | .iface _ d => uptoBulk d + 1
  | .map entries => uptoBulkEntries entries + 1
  | .held _ => 1
def uptoBulkAll {H : Type} : List (DataW H) → Nat
  | [] => 0
  | d :: r => uptoBulk d + uptoBulkAll r
def uptoBulkEntries {H : Type} : List (Lit × DataW H) → Nat
  | [] => 0
  | x :: r => uptoBulkEntry x + uptoBulkEntries r
def uptoBulkEntry {H : Type} : Lit × DataW H → Nat
  | (.string bytes, d) => bytes.length + uptoBulk d + 1
  | (_, d) => uptoBulk d + 1
 end
def uptoSmall : (H : Type) → List (DataW H) → Bool := fun _ ds => decide (uptoBulkAll ds ≤ 1048576)
def OpenSpec.upto (s : _root_.Go.ChangeSpec) : _root_.Go.OpenSpec := { _root_.Go.OpenSpec.ofChange s with cond := some uptoSmall }

/-- 'laws.FnUnsafeCreatePartitionsResponse', WHERE WHAT IT READS IS OF BULK AT MOST 1048576: true; the input reads as it did. -/
def fnUnsafeCreatePartitionsResponseUptoRow : OpenClaim := { program := "ytadfbhmpehnkeaadoor", sum := "57cfd7270af3ec1b7a8741fe97a419012456deb741199e423806ed90bab3c9da", func := "pub-mailsack/laws.FnUnsafeCreatePartitionsResponse", spec := "fnUnsafeCreatePartitionsResponse", inPlace := ["internal/reflectlite.ValueOf", "internal/reflectlite.Swapper", "(internal/reflectlite.Value).Len"], unfollowed := true, recurses := true, named := ["encoding/binary.BigEndian", "pub-mailsack/pub/kmsg/inner/kbin.ErrNotEnoughData"], apart := false, laid := [("pub-mailsack/pub/kmsg/inner/kbin.ErrNotEnoughData", laid_pub_mailsack_pub_kmsg_inner_kbin_ErrNotEnoughData)], narrowed := true }
def FnUnsafeCreatePartitionsResponseUptoSaid : Prop := fnUnsafeCreatePartitionsResponseUptoRow.holds Tryd.pinned (OpenSpec.upto fnUnsafeCreatePartitionsResponseSpec)

/-- 'laws.FnUnsafeDeleteGroupsResponse', WHERE WHAT IT READS IS OF BULK AT MOST 1048576: true; the input reads as it did. -/
def fnUnsafeDeleteGroupsResponseUptoRow : OpenClaim := { program := "ytadfbhmpehnkeaadoor", sum := "57cfd7270af3ec1b7a8741fe97a419012456deb741199e423806ed90bab3c9da", func := "pub-mailsack/laws.FnUnsafeDeleteGroupsResponse", spec := "fnUnsafeDeleteGroupsResponse", inPlace := ["internal/reflectlite.ValueOf", "internal/reflectlite.Swapper", "(internal/reflectlite.Value).Len"], unfollowed := true, recurses := true, named := ["encoding/binary.BigEndian", "pub-mailsack/pub/kmsg/inner/kbin.ErrNotEnoughData"], apart := false, laid := [("pub-mailsack/pub/kmsg/inner/kbin.ErrNotEnoughData", laid_pub_mailsack_pub_kmsg_inner_kbin_ErrNotEnoughData)], narrowed := true }
def FnUnsafeDeleteGroupsResponseUptoSaid : Prop := fnUnsafeDeleteGroupsResponseUptoRow.holds Tryd.pinned (OpenSpec.upto fnUnsafeDeleteGroupsResponseSpec)

/-- 'laws.FnUnsafeAssignReplicasToDirsResponse', WHERE WHAT IT READS IS OF BULK AT MOST 1048576: true; the input reads as it did. -/
def fnUnsafeAssignReplicasToDirsResponseUptoRow : OpenClaim := { program := "ytadfbhmpehnkeaadoor", sum := "57cfd7270af3ec1b7a8741fe97a419012456deb741199e423806ed90bab3c9da", func := "pub-mailsack/laws.FnUnsafeAssignReplicasToDirsResponse", spec := "fnUnsafeAssignReplicasToDirsResponse", inPlace := ["internal/reflectlite.ValueOf", "internal/reflectlite.Swapper", "(internal/reflectlite.Value).Len"], unfollowed := true, recurses := true, named := ["encoding/binary.BigEndian", "pub-mailsack/pub/kmsg/inner/kbin.ErrNotEnoughData"], apart := false, laid := [("pub-mailsack/pub/kmsg/inner/kbin.ErrNotEnoughData", laid_pub_mailsack_pub_kmsg_inner_kbin_ErrNotEnoughData)], narrowed := true }
def FnUnsafeAssignReplicasToDirsResponseUptoSaid : Prop := fnUnsafeAssignReplicasToDirsResponseUptoRow.holds Tryd.pinned (OpenSpec.upto fnUnsafeAssignReplicasToDirsResponseSpec)

/-- 'laws.FnUnsafeDescribeShareGroupOffsetsRequest', WHERE WHAT IT READS IS OF BULK AT MOST 1048576: true; the input reads as it did. -/
def fnUnsafeDescribeShareGroupOffsetsRequestUptoRow : OpenClaim := { program := "ytadfbhmpehnkeaadoor", sum := "57cfd7270af3ec1b7a8741fe97a419012456deb741199e423806ed90bab3c9da", func := "pub-mailsack/laws.FnUnsafeDescribeShareGroupOffsetsRequest", spec := "fnUnsafeDescribeShareGroupOffsetsRequest", inPlace := ["internal/reflectlite.ValueOf", "internal/reflectlite.Swapper", "(internal/reflectlite.Value).Len"], unfollowed := true, recurses := true, named := ["encoding/binary.BigEndian", "pub-mailsack/pub/kmsg/inner/kbin.ErrNotEnoughData"], apart := false, laid := [("pub-mailsack/pub/kmsg/inner/kbin.ErrNotEnoughData", laid_pub_mailsack_pub_kmsg_inner_kbin_ErrNotEnoughData)], narrowed := true }
def FnUnsafeDescribeShareGroupOffsetsRequestUptoSaid : Prop := fnUnsafeDescribeShareGroupOffsetsRequestUptoRow.holds Tryd.pinned (OpenSpec.upto fnUnsafeDescribeShareGroupOffsetsRequestSpec)

/-- 'laws.FnUnsafeMetadataRequest', WHERE WHAT IT READS IS OF BULK AT MOST 1048576: true; the input reads as it did. -/
def fnUnsafeMetadataRequestUptoRow : OpenClaim := { program := "ytadfbhmpehnkeaadoor", sum := "57cfd7270af3ec1b7a8741fe97a419012456deb741199e423806ed90bab3c9da", func := "pub-mailsack/laws.FnUnsafeMetadataRequest", spec := "fnUnsafeMetadataRequest", inPlace := ["internal/reflectlite.ValueOf", "internal/reflectlite.Swapper", "(internal/reflectlite.Value).Len"], unfollowed := true, recurses := true, named := ["encoding/binary.BigEndian", "pub-mailsack/pub/kmsg/inner/kbin.ErrNotEnoughData"], apart := false, laid := [("pub-mailsack/pub/kmsg/inner/kbin.ErrNotEnoughData", laid_pub_mailsack_pub_kmsg_inner_kbin_ErrNotEnoughData)], narrowed := true }
def FnUnsafeMetadataRequestUptoSaid : Prop := fnUnsafeMetadataRequestUptoRow.holds Tryd.pinned (OpenSpec.upto fnUnsafeMetadataRequestSpec)

/-- 'laws.FnUnsafeDeleteACLsRequest', WHERE WHAT IT READS IS OF BULK AT MOST 1048576: true; the input reads as it did. -/
def fnUnsafeDeleteACLsRequestUptoRow : OpenClaim := { program := "ytadfbhmpehnkeaadoor", sum := "57cfd7270af3ec1b7a8741fe97a419012456deb741199e423806ed90bab3c9da", func := "pub-mailsack/laws.FnUnsafeDeleteACLsRequest", spec := "fnUnsafeDeleteACLsRequest", inPlace := ["internal/reflectlite.ValueOf", "internal/reflectlite.Swapper", "(internal/reflectlite.Value).Len"], unfollowed := true, recurses := true, named := ["encoding/binary.BigEndian", "pub-mailsack/pub/kmsg/inner/kbin.ErrNotEnoughData"], apart := false, laid := [("pub-mailsack/pub/kmsg/inner/kbin.ErrNotEnoughData", laid_pub_mailsack_pub_kmsg_inner_kbin_ErrNotEnoughData)], narrowed := true }
def FnUnsafeDeleteACLsRequestUptoSaid : Prop := fnUnsafeDeleteACLsRequestUptoRow.holds Tryd.pinned (OpenSpec.upto fnUnsafeDeleteACLsRequestSpec)

/-- 'laws.FnUnsafeShareGroupHeartbeatResponse', WHERE WHAT IT READS IS OF BULK AT MOST 1048576: true; the input reads as it did. -/
def fnUnsafeShareGroupHeartbeatResponseUptoRow : OpenClaim := { program := "ytadfbhmpehnkeaadoor", sum := "57cfd7270af3ec1b7a8741fe97a419012456deb741199e423806ed90bab3c9da", func := "pub-mailsack/laws.FnUnsafeShareGroupHeartbeatResponse", spec := "fnUnsafeShareGroupHeartbeatResponse", inPlace := ["internal/reflectlite.ValueOf", "internal/reflectlite.Swapper", "(internal/reflectlite.Value).Len"], unfollowed := true, recurses := true, named := ["encoding/binary.BigEndian", "pub-mailsack/pub/kmsg/inner/kbin.ErrNotEnoughData"], apart := false, laid := [("pub-mailsack/pub/kmsg/inner/kbin.ErrNotEnoughData", laid_pub_mailsack_pub_kmsg_inner_kbin_ErrNotEnoughData)], narrowed := true }
def FnUnsafeShareGroupHeartbeatResponseUptoSaid : Prop := fnUnsafeShareGroupHeartbeatResponseUptoRow.holds Tryd.pinned (OpenSpec.upto fnUnsafeShareGroupHeartbeatResponseSpec)

/-- 'laws.FnUnsafeListPartitionReassignmentsResponse', WHERE WHAT IT READS IS OF BULK AT MOST 1048576: true; the input reads as it did. -/
def fnUnsafeListPartitionReassignmentsResponseUptoRow : OpenClaim := { program := "ytadfbhmpehnkeaadoor", sum := "57cfd7270af3ec1b7a8741fe97a419012456deb741199e423806ed90bab3c9da", func := "pub-mailsack/laws.FnUnsafeListPartitionReassignmentsResponse", spec := "fnUnsafeListPartitionReassignmentsResponse", inPlace := ["internal/reflectlite.ValueOf", "internal/reflectlite.Swapper", "(internal/reflectlite.Value).Len"], unfollowed := true, recurses := true, named := ["encoding/binary.BigEndian", "pub-mailsack/pub/kmsg/inner/kbin.ErrNotEnoughData"], apart := false, laid := [("pub-mailsack/pub/kmsg/inner/kbin.ErrNotEnoughData", laid_pub_mailsack_pub_kmsg_inner_kbin_ErrNotEnoughData)], narrowed := true }
def FnUnsafeListPartitionReassignmentsResponseUptoSaid : Prop := fnUnsafeListPartitionReassignmentsResponseUptoRow.holds Tryd.pinned (OpenSpec.upto fnUnsafeListPartitionReassignmentsResponseSpec)

/-- 'laws.FnUnsafeAddPartitionsToTxnRequest', WHERE WHAT IT READS IS OF BULK AT MOST 1048576: true; the input reads as it did. -/
def fnUnsafeAddPartitionsToTxnRequestUptoRow : OpenClaim := { program := "ytadfbhmpehnkeaadoor", sum := "57cfd7270af3ec1b7a8741fe97a419012456deb741199e423806ed90bab3c9da", func := "pub-mailsack/laws.FnUnsafeAddPartitionsToTxnRequest", spec := "fnUnsafeAddPartitionsToTxnRequest", inPlace := ["internal/reflectlite.ValueOf", "internal/reflectlite.Swapper", "(internal/reflectlite.Value).Len"], unfollowed := true, recurses := true, named := ["encoding/binary.BigEndian", "pub-mailsack/pub/kmsg/inner/kbin.ErrNotEnoughData"], apart := false, laid := [("pub-mailsack/pub/kmsg/inner/kbin.ErrNotEnoughData", laid_pub_mailsack_pub_kmsg_inner_kbin_ErrNotEnoughData)], narrowed := true }
def FnUnsafeAddPartitionsToTxnRequestUptoSaid : Prop := fnUnsafeAddPartitionsToTxnRequestUptoRow.holds Tryd.pinned (OpenSpec.upto fnUnsafeAddPartitionsToTxnRequestSpec)

/-- 'laws.FnUnsafeBrokerHeartbeatRequest', WHERE WHAT IT READS IS OF BULK AT MOST 1048576: true; the input reads as it did. -/
def fnUnsafeBrokerHeartbeatRequestUptoRow : OpenClaim := { program := "ytadfbhmpehnkeaadoor", sum := "57cfd7270af3ec1b7a8741fe97a419012456deb741199e423806ed90bab3c9da", func := "pub-mailsack/laws.FnUnsafeBrokerHeartbeatRequest", spec := "fnUnsafeBrokerHeartbeatRequest", inPlace := ["internal/reflectlite.ValueOf", "internal/reflectlite.Swapper", "(internal/reflectlite.Value).Len"], unfollowed := true, recurses := true, named := ["encoding/binary.BigEndian", "pub-mailsack/pub/kmsg/inner/kbin.ErrNotEnoughData"], apart := false, laid := [("pub-mailsack/pub/kmsg/inner/kbin.ErrNotEnoughData", laid_pub_mailsack_pub_kmsg_inner_kbin_ErrNotEnoughData)], narrowed := true }
def FnUnsafeBrokerHeartbeatRequestUptoSaid : Prop := fnUnsafeBrokerHeartbeatRequestUptoRow.holds Tryd.pinned (OpenSpec.upto fnUnsafeBrokerHeartbeatRequestSpec)

end Rows
end Go.Proofs.YtadfbhmpehnkeaaDoor
