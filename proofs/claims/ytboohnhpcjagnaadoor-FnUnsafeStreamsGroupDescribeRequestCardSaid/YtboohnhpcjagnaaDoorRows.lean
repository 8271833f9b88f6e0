/-
  NARROWER THAN 'FOR EVERY INPUT', by the rows' own cells (each row's printed sentence says how): FnUnsafeSASLHandshakeRequest: laid · FnUnsafeConnectMemberMetadata: laid · FnUnsafeControllerRegistrationResponse: laid · FnUnsafeEndTxnRequest: laid · FnUnsafeShareGroupDescribeRequest: laid · FnUnsafeStreamsGroupDescribeRequest: laid · FnUnsafeDeleteShareGroupOffsetsRequest: laid · FnUnsafeDescribeACLsRequest: laid · FnUnsafeBrokerHeartbeatRequest: laid · FnUnsafeCreatePartitionsResponse: laid.
  DERIVED. THE GIVEN ROWS OF THIS SEAT. 10 by the template 'for every input the law returns true; each argument reads behind the call as it read before'; 0 by the template 'total and deterministic' (their statements: YtboohnhpcjagnaaDoorTotals.lean).
  GIVEN WITH THE SEED: the statements are not yours to turn. If you find one false, say at which input.
  Laid BY PROGRAM, IN A SANDBOX (cutbox-rows.mjs): the forced cells as the released guide's own fill.sh prints them over the translation 1074fe5be0b63055… (all of the seat's roots in one cut). By AI agents, Wed Nov 11 2026. No macro, syntax, notation, axiom, sorry.
-/
import Derived.Test.YtboohnhpcjagnaaDoorChecked
import GoSem.Claim
import GoSem.ClaimJoined
import GoSem.ClaimMapViews
import Derived.JoinedTies
import Derived.KernelRfl
namespace Go.Proofs.YtboohnhpcjagnaaDoor
/- THE CELL 'sum', in the pinned program and in every row, IS THE sha256 OF THE DUMP (.gsa) THAT YtboohnhpcjagnaaDoorProg.lean LOADS. Nothing in Lean hashes anything: it is a label: what it is worth is what the hold of that sum in a sandbox is worth. -/
noncomputable def Tryd.pinned : Pinned := { name := "ytboohnhpcjagnaadoor", sum := "1074fe5be0b63055a48a01feab9a6f45f807ca2c22a1d771e4d096eb74906083", checked := Tryd.checked }
namespace Rows
def none {H : Type} : Left H := { results := [], args := [] }

/- WHAT THE LISTED PACKAGE-LEVEL VARIABLES READ AS WHEN THE CALL BEGINS. Each datum BY PROGRAM (the guide's laid-datum.mjs) off the statement by which the dump's own 'gosem.cut.vars' lays the variable. In a bare row this is a premise. The card (YtboohnhpcjagnaaDoorCards.lean) ties it to the program's text. -/
def laid_pub_mailsack_pub_kmsg_inner_kbin_ErrNotEnoughData {H : Type} : DataW H := .iface "*errors.errorString" (.ptr (.agg [.lit (.string [114, 101, 115, 112, 111, 110, 115, 101, 32, 100, 105, 100, 32, 110, 111, 116, 32, 99, 111, 110, 116, 97, 105, 110, 32, 101, 110, 111, 117, 103, 104, 32, 100, 97, 116, 97, 32, 116, 111, 32, 98, 101, 32, 118, 97, 108, 105, 100])]))

/-- 'laws.FnUnsafeSASLHandshakeRequest': WHATEVER THE INPUT: true; the input reads as it did. -/
def fnUnsafeSASLHandshakeRequestSpec : ChangeSpec := { name := "fnUnsafeSASLHandshakeRequest", fn := fun _ => fun
  | [d1, d2] => { results := [.lit (.bool true)], args := [d1, d2] }
  | _ => none }
def fnUnsafeSASLHandshakeRequestRow : OpenClaim := { program := "ytboohnhpcjagnaadoor", sum := "1074fe5be0b63055a48a01feab9a6f45f807ca2c22a1d771e4d096eb74906083", func := "pub-mailsack/laws.FnUnsafeSASLHandshakeRequest", spec := "fnUnsafeSASLHandshakeRequest", recurses := true, named := ["encoding/binary.BigEndian", "pub-mailsack/pub/kmsg/inner/kbin.ErrNotEnoughData"], apart := false, laid := [("pub-mailsack/pub/kmsg/inner/kbin.ErrNotEnoughData", laid_pub_mailsack_pub_kmsg_inner_kbin_ErrNotEnoughData)] }
def FnUnsafeSASLHandshakeRequestSaid : Prop := fnUnsafeSASLHandshakeRequestRow.holds Tryd.pinned (OpenSpec.ofChange fnUnsafeSASLHandshakeRequestSpec)

/-- ITS FALSE NEIGHBOUR: 'it returns false'. Refute it at one input. -/
def fnUnsafeSASLHandshakeRequestWrong : ChangeSpec := { name := "fnUnsafeSASLHandshakeRequest", fn := fun _ => fun
  | [d1, d2] => { results := [.lit (.bool false)], args := [d1, d2] }
  | _ => none }
def FnUnsafeSASLHandshakeRequestWrongFalsely : Prop := fnUnsafeSASLHandshakeRequestRow.holds Tryd.pinned (OpenSpec.ofChange fnUnsafeSASLHandshakeRequestWrong)

/-- 'laws.FnUnsafeConnectMemberMetadata': WHATEVER THE INPUT: true; the input reads as it did. -/
def fnUnsafeConnectMemberMetadataSpec : ChangeSpec := { name := "fnUnsafeConnectMemberMetadata", fn := fun _ => fun
  | [d] => { results := [.lit (.bool true)], args := [d] }
  | _ => none }
def fnUnsafeConnectMemberMetadataRow : OpenClaim := { program := "ytboohnhpcjagnaadoor", sum := "1074fe5be0b63055a48a01feab9a6f45f807ca2c22a1d771e4d096eb74906083", func := "pub-mailsack/laws.FnUnsafeConnectMemberMetadata", spec := "fnUnsafeConnectMemberMetadata", recurses := true, named := ["encoding/binary.BigEndian", "pub-mailsack/pub/kmsg/inner/kbin.ErrNotEnoughData"], apart := false, laid := [("pub-mailsack/pub/kmsg/inner/kbin.ErrNotEnoughData", laid_pub_mailsack_pub_kmsg_inner_kbin_ErrNotEnoughData)] }
def FnUnsafeConnectMemberMetadataSaid : Prop := fnUnsafeConnectMemberMetadataRow.holds Tryd.pinned (OpenSpec.ofChange fnUnsafeConnectMemberMetadataSpec)

/-- ITS FALSE NEIGHBOUR: 'it returns false'. Refute it at one input. -/
def fnUnsafeConnectMemberMetadataWrong : ChangeSpec := { name := "fnUnsafeConnectMemberMetadata", fn := fun _ => fun
  | [d] => { results := [.lit (.bool false)], args := [d] }
  | _ => none }
def FnUnsafeConnectMemberMetadataWrongFalsely : Prop := fnUnsafeConnectMemberMetadataRow.holds Tryd.pinned (OpenSpec.ofChange fnUnsafeConnectMemberMetadataWrong)

/-- 'laws.FnUnsafeControllerRegistrationResponse': WHATEVER THE INPUT: true; the input reads as it did. -/
def fnUnsafeControllerRegistrationResponseSpec : ChangeSpec := { name := "fnUnsafeControllerRegistrationResponse", fn := fun _ => fun
  | [d1, d2] => { results := [.lit (.bool true)], args := [d1, d2] }
  | _ => none }
def fnUnsafeControllerRegistrationResponseRow : OpenClaim := { program := "ytboohnhpcjagnaadoor", sum := "1074fe5be0b63055a48a01feab9a6f45f807ca2c22a1d771e4d096eb74906083", func := "pub-mailsack/laws.FnUnsafeControllerRegistrationResponse", spec := "fnUnsafeControllerRegistrationResponse", inPlace := ["internal/reflectlite.ValueOf", "internal/reflectlite.Swapper", "(internal/reflectlite.Value).Len"], unfollowed := true, recurses := true, named := ["encoding/binary.BigEndian", "pub-mailsack/pub/kmsg/inner/kbin.ErrNotEnoughData"], apart := false, laid := [("pub-mailsack/pub/kmsg/inner/kbin.ErrNotEnoughData", laid_pub_mailsack_pub_kmsg_inner_kbin_ErrNotEnoughData)] }
def FnUnsafeControllerRegistrationResponseSaid : Prop := fnUnsafeControllerRegistrationResponseRow.holds Tryd.pinned (OpenSpec.ofChange fnUnsafeControllerRegistrationResponseSpec)

/-- ITS FALSE NEIGHBOUR: 'it returns false'. Refute it at one input. -/
def fnUnsafeControllerRegistrationResponseWrong : ChangeSpec := { name := "fnUnsafeControllerRegistrationResponse", fn := fun _ => fun
  | [d1, d2] => { results := [.lit (.bool false)], args := [d1, d2] }
  | _ => none }
def FnUnsafeControllerRegistrationResponseWrongFalsely : Prop := fnUnsafeControllerRegistrationResponseRow.holds Tryd.pinned (OpenSpec.ofChange fnUnsafeControllerRegistrationResponseWrong)

/-- 'laws.FnUnsafeEndTxnRequest': WHATEVER THE INPUT: true; the input reads as it did. -/
def fnUnsafeEndTxnRequestSpec : ChangeSpec := { name := "fnUnsafeEndTxnRequest", fn := fun _ => fun
  | [d1, d2] => { results := [.lit (.bool true)], args := [d1, d2] }
  | _ => none }
def fnUnsafeEndTxnRequestRow : OpenClaim := { program := "ytboohnhpcjagnaadoor", sum := "1074fe5be0b63055a48a01feab9a6f45f807ca2c22a1d771e4d096eb74906083", func := "pub-mailsack/laws.FnUnsafeEndTxnRequest", spec := "fnUnsafeEndTxnRequest", inPlace := ["internal/reflectlite.ValueOf", "internal/reflectlite.Swapper", "(internal/reflectlite.Value).Len"], unfollowed := true, recurses := true, named := ["encoding/binary.BigEndian", "pub-mailsack/pub/kmsg/inner/kbin.ErrNotEnoughData"], apart := false, laid := [("pub-mailsack/pub/kmsg/inner/kbin.ErrNotEnoughData", laid_pub_mailsack_pub_kmsg_inner_kbin_ErrNotEnoughData)] }
def FnUnsafeEndTxnRequestSaid : Prop := fnUnsafeEndTxnRequestRow.holds Tryd.pinned (OpenSpec.ofChange fnUnsafeEndTxnRequestSpec)

/-- ITS FALSE NEIGHBOUR: 'it returns false'. Refute it at one input. -/
def fnUnsafeEndTxnRequestWrong : ChangeSpec := { name := "fnUnsafeEndTxnRequest", fn := fun _ => fun
  | [d1, d2] => { results := [.lit (.bool false)], args := [d1, d2] }
  | _ => none }
def FnUnsafeEndTxnRequestWrongFalsely : Prop := fnUnsafeEndTxnRequestRow.holds Tryd.pinned (OpenSpec.ofChange fnUnsafeEndTxnRequestWrong)

/-- 'laws.FnUnsafeShareGroupDescribeRequest': WHATEVER THE INPUT: true; the input reads as it did. -/
def fnUnsafeShareGroupDescribeRequestSpec : ChangeSpec := { name := "fnUnsafeShareGroupDescribeRequest", fn := fun _ => fun
  | [d1, d2] => { results := [.lit (.bool true)], args := [d1, d2] }
  | _ => none }
def fnUnsafeShareGroupDescribeRequestRow : OpenClaim := { program := "ytboohnhpcjagnaadoor", sum := "1074fe5be0b63055a48a01feab9a6f45f807ca2c22a1d771e4d096eb74906083", func := "pub-mailsack/laws.FnUnsafeShareGroupDescribeRequest", spec := "fnUnsafeShareGroupDescribeRequest", inPlace := ["internal/reflectlite.ValueOf", "internal/reflectlite.Swapper", "(internal/reflectlite.Value).Len"], unfollowed := true, recurses := true, named := ["encoding/binary.BigEndian", "pub-mailsack/pub/kmsg/inner/kbin.ErrNotEnoughData"], apart := false, laid := [("pub-mailsack/pub/kmsg/inner/kbin.ErrNotEnoughData", laid_pub_mailsack_pub_kmsg_inner_kbin_ErrNotEnoughData)] }
def FnUnsafeShareGroupDescribeRequestSaid : Prop := fnUnsafeShareGroupDescribeRequestRow.holds Tryd.pinned (OpenSpec.ofChange fnUnsafeShareGroupDescribeRequestSpec)

/-- ITS FALSE NEIGHBOUR: 'it returns false'. Refute it at one input. -/
def fnUnsafeShareGroupDescribeRequestWrong : ChangeSpec := { name := "fnUnsafeShareGroupDescribeRequest", fn := fun _ => fun
  | [d1, d2] => { results := [.lit (.bool false)], args := [d1, d2] }
  | _ => none }
def FnUnsafeShareGroupDescribeRequestWrongFalsely : Prop := fnUnsafeShareGroupDescribeRequestRow.holds Tryd.pinned (OpenSpec.ofChange fnUnsafeShareGroupDescribeRequestWrong)

/-- 'laws.FnUnsafeStreamsGroupDescribeRequest': WHATEVER THE INPUT: true; the input reads as it did. -/
def fnUnsafeStreamsGroupDescribeRequestSpec : ChangeSpec := { name := "fnUnsafeStreamsGroupDescribeRequest", fn := fun _ => fun
  | [d1, d2] => { results := [.lit (.bool true)], args := [d1, d2] }
  | _ => none }
def fnUnsafeStreamsGroupDescribeRequestRow : OpenClaim := { program := "ytboohnhpcjagnaadoor", sum := "1074fe5be0b63055a48a01feab9a6f45f807ca2c22a1d771e4d096eb74906083", func := "pub-mailsack/laws.FnUnsafeStreamsGroupDescribeRequest", spec := "fnUnsafeStreamsGroupDescribeRequest", inPlace := ["internal/reflectlite.ValueOf", "internal/reflectlite.Swapper", "(internal/reflectlite.Value).Len"], unfollowed := true, recurses := true, named := ["encoding/binary.BigEndian", "pub-mailsack/pub/kmsg/inner/kbin.ErrNotEnoughData"], apart := false, laid := [("pub-mailsack/pub/kmsg/inner/kbin.ErrNotEnoughData", laid_pub_mailsack_pub_kmsg_inner_kbin_ErrNotEnoughData)] }
def FnUnsafeStreamsGroupDescribeRequestSaid : Prop := fnUnsafeStreamsGroupDescribeRequestRow.holds Tryd.pinned (OpenSpec.ofChange fnUnsafeStreamsGroupDescribeRequestSpec)

/-- ITS FALSE NEIGHBOUR: 'it returns false'. Refute it at one input. -/
def fnUnsafeStreamsGroupDescribeRequestWrong : ChangeSpec := { name := "fnUnsafeStreamsGroupDescribeRequest", fn := fun _ => fun
  | [d1, d2] => { results := [.lit (.bool false)], args := [d1, d2] }
  | _ => none }
def FnUnsafeStreamsGroupDescribeRequestWrongFalsely : Prop := fnUnsafeStreamsGroupDescribeRequestRow.holds Tryd.pinned (OpenSpec.ofChange fnUnsafeStreamsGroupDescribeRequestWrong)

/-- 'laws.FnUnsafeDeleteShareGroupOffsetsRequest': WHATEVER THE INPUT: true; the input reads as it did. -/
def fnUnsafeDeleteShareGroupOffsetsRequestSpec : ChangeSpec := { name := "fnUnsafeDeleteShareGroupOffsetsRequest", fn := fun _ => fun
  | [d1, d2] => { results := [.lit (.bool true)], args := [d1, d2] }
  | _ => none }
def fnUnsafeDeleteShareGroupOffsetsRequestRow : OpenClaim := { program := "ytboohnhpcjagnaadoor", sum := "1074fe5be0b63055a48a01feab9a6f45f807ca2c22a1d771e4d096eb74906083", func := "pub-mailsack/laws.FnUnsafeDeleteShareGroupOffsetsRequest", spec := "fnUnsafeDeleteShareGroupOffsetsRequest", inPlace := ["internal/reflectlite.ValueOf", "internal/reflectlite.Swapper", "(internal/reflectlite.Value).Len"], unfollowed := true, recurses := true, named := ["encoding/binary.BigEndian", "pub-mailsack/pub/kmsg/inner/kbin.ErrNotEnoughData"], apart := false, laid := [("pub-mailsack/pub/kmsg/inner/kbin.ErrNotEnoughData", laid_pub_mailsack_pub_kmsg_inner_kbin_ErrNotEnoughData)] }
def FnUnsafeDeleteShareGroupOffsetsRequestSaid : Prop := fnUnsafeDeleteShareGroupOffsetsRequestRow.holds Tryd.pinned (OpenSpec.ofChange fnUnsafeDeleteShareGroupOffsetsRequestSpec)

/-- ITS FALSE NEIGHBOUR: 'it returns false'. Refute it at one input. -/
def fnUnsafeDeleteShareGroupOffsetsRequestWrong : ChangeSpec := { name := "fnUnsafeDeleteShareGroupOffsetsRequest", fn := fun _ => fun
  | [d1, d2] => { results := [.lit (.bool false)], args := [d1, d2] }
  | _ => none }
def FnUnsafeDeleteShareGroupOffsetsRequestWrongFalsely : Prop := fnUnsafeDeleteShareGroupOffsetsRequestRow.holds Tryd.pinned (OpenSpec.ofChange fnUnsafeDeleteShareGroupOffsetsRequestWrong)

/-- 'laws.FnUnsafeDescribeACLsRequest': WHATEVER THE INPUT: true; the input reads as it did. -/
def fnUnsafeDescribeACLsRequestSpec : ChangeSpec := { name := "fnUnsafeDescribeACLsRequest", fn := fun _ => fun
  | [d1, d2] => { results := [.lit (.bool true)], args := [d1, d2] }
  | _ => none }
def fnUnsafeDescribeACLsRequestRow : OpenClaim := { program := "ytboohnhpcjagnaadoor", sum := "1074fe5be0b63055a48a01feab9a6f45f807ca2c22a1d771e4d096eb74906083", func := "pub-mailsack/laws.FnUnsafeDescribeACLsRequest", spec := "fnUnsafeDescribeACLsRequest", inPlace := ["internal/reflectlite.ValueOf", "internal/reflectlite.Swapper", "(internal/reflectlite.Value).Len"], unfollowed := true, recurses := true, named := ["encoding/binary.BigEndian", "pub-mailsack/pub/kmsg/inner/kbin.ErrNotEnoughData"], apart := false, laid := [("pub-mailsack/pub/kmsg/inner/kbin.ErrNotEnoughData", laid_pub_mailsack_pub_kmsg_inner_kbin_ErrNotEnoughData)] }
def FnUnsafeDescribeACLsRequestSaid : Prop := fnUnsafeDescribeACLsRequestRow.holds Tryd.pinned (OpenSpec.ofChange fnUnsafeDescribeACLsRequestSpec)

/-- ITS FALSE NEIGHBOUR: 'it returns false'. Refute it at one input. -/
def fnUnsafeDescribeACLsRequestWrong : ChangeSpec := { name := "fnUnsafeDescribeACLsRequest", fn := fun _ => fun
  | [d1, d2] => { results := [.lit (.bool false)], args := [d1, d2] }
  | _ => none }
def FnUnsafeDescribeACLsRequestWrongFalsely : Prop := fnUnsafeDescribeACLsRequestRow.holds Tryd.pinned (OpenSpec.ofChange fnUnsafeDescribeACLsRequestWrong)

/-- 'laws.FnUnsafeBrokerHeartbeatRequest': WHATEVER THE INPUT: true; the input reads as it did. -/
def fnUnsafeBrokerHeartbeatRequestSpec : ChangeSpec := { name := "fnUnsafeBrokerHeartbeatRequest", fn := fun _ => fun
  | [d1, d2] => { results := [.lit (.bool true)], args := [d1, d2] }
  | _ => none }
def fnUnsafeBrokerHeartbeatRequestRow : OpenClaim := { program := "ytboohnhpcjagnaadoor", sum := "1074fe5be0b63055a48a01feab9a6f45f807ca2c22a1d771e4d096eb74906083", func := "pub-mailsack/laws.FnUnsafeBrokerHeartbeatRequest", spec := "fnUnsafeBrokerHeartbeatRequest", inPlace := ["internal/reflectlite.ValueOf", "internal/reflectlite.Swapper", "(internal/reflectlite.Value).Len"], unfollowed := true, recurses := true, named := ["encoding/binary.BigEndian", "pub-mailsack/pub/kmsg/inner/kbin.ErrNotEnoughData"], apart := false, laid := [("pub-mailsack/pub/kmsg/inner/kbin.ErrNotEnoughData", laid_pub_mailsack_pub_kmsg_inner_kbin_ErrNotEnoughData)] }
def FnUnsafeBrokerHeartbeatRequestSaid : Prop := fnUnsafeBrokerHeartbeatRequestRow.holds Tryd.pinned (OpenSpec.ofChange fnUnsafeBrokerHeartbeatRequestSpec)

/-- ITS FALSE NEIGHBOUR: 'it returns false'. Refute it at one input. -/
def fnUnsafeBrokerHeartbeatRequestWrong : ChangeSpec := { name := "fnUnsafeBrokerHeartbeatRequest", fn := fun _ => fun
  | [d1, d2] => { results := [.lit (.bool false)], args := [d1, d2] }
  | _ => none }
def FnUnsafeBrokerHeartbeatRequestWrongFalsely : Prop := fnUnsafeBrokerHeartbeatRequestRow.holds Tryd.pinned (OpenSpec.ofChange fnUnsafeBrokerHeartbeatRequestWrong)

/-- 'laws.FnUnsafeCreatePartitionsResponse': WHATEVER THE INPUT: true; the input reads as it did. -/
def fnUnsafeCreatePartitionsResponseSpec : ChangeSpec := { name := "fnUnsafeCreatePartitionsResponse", fn := fun _ => fun
  | [d1, d2] => { results := [.lit (.bool true)], args := [d1, d2] }
  | _ => none }
def fnUnsafeCreatePartitionsResponseRow : OpenClaim := { program := "ytboohnhpcjagnaadoor", sum := "1074fe5be0b63055a48a01feab9a6f45f807ca2c22a1d771e4d096eb74906083", func := "pub-mailsack/laws.FnUnsafeCreatePartitionsResponse", spec := "fnUnsafeCreatePartitionsResponse", inPlace := ["internal/reflectlite.ValueOf", "internal/reflectlite.Swapper", "(internal/reflectlite.Value).Len"], unfollowed := true, recurses := true, named := ["encoding/binary.BigEndian", "pub-mailsack/pub/kmsg/inner/kbin.ErrNotEnoughData"], apart := false, laid := [("pub-mailsack/pub/kmsg/inner/kbin.ErrNotEnoughData", laid_pub_mailsack_pub_kmsg_inner_kbin_ErrNotEnoughData)] }
def FnUnsafeCreatePartitionsResponseSaid : Prop := fnUnsafeCreatePartitionsResponseRow.holds Tryd.pinned (OpenSpec.ofChange fnUnsafeCreatePartitionsResponseSpec)

/-- ITS FALSE NEIGHBOUR: 'it returns false'. Refute it at one input. -/
def fnUnsafeCreatePartitionsResponseWrong : ChangeSpec := { name := "fnUnsafeCreatePartitionsResponse", fn := fun _ => fun
  | [d1, d2] => { results := [.lit (.bool false)], args := [d1, d2] }
  | _ => none }
def FnUnsafeCreatePartitionsResponseWrongFalsely : Prop := fnUnsafeCreatePartitionsResponseRow.holds Tryd.pinned (OpenSpec.ofChange fnUnsafeCreatePartitionsResponseWrong)

/- THE SECOND FORM. 'bulk': how many values and letters a reading holds, each counted each time it is reached (what is shared counts as often as it is met; a slice's spare places count too). A statement '..UptoSaid' is the law's where the arguments, and the package variables that the reading takes, are together of bulk at most 1048576: NARROWER than '..Said'. Prove '..Said' where nothing that the law and all that it calls make is longer than what came in: it says more and counts as full. Else prove '..UptoSaid'. A law counts once. -/
mutual
def uptoBulk {H : Type} : DataW H → Nat
  | .lit (.string bytes) => bytes.length + 1
  | .lit _ => 1
  | .nil => 1
  | .ptr d => uptoBulk d + 1
  | .slice elems spare => uptoBulkAll elems + uptoBulkAll spare + 1
  | .agg parts => uptoBulkAll parts + 1
  | .iface _ d => uptoBulk d + 1
  | .map entries => uptoBulkEntries entries + 1
  | .held _ => 1
def uptoBulkAll {H : Type} : List (DataW H) → Nat
  | [] => 0
  | d :: r => uptoBulk d + uptoBulkAll r
def uptoBulkEntries {H : Type} : List (Lit × DataW H) → Nat
  | [] => 0
  | x :: r => uptoBulkEntry x + uptoBulkEntries r
def uptoBulkEntry {H : Type} : Lit × DataW H → Nat
  | (.string bytes, d) => bytes.length + uptoBulk d + 1
  | (_, d) => uptoBulk d + 1
 end
def uptoSmall : (H : Type) → List (DataW H) → Bool := fun _ ds => decide (uptoBulkAll ds ≤ 1048576)
def OpenSpec.upto (s : _root_.Go.ChangeSpec) : _root_.Go.OpenSpec := { _root_.Go.OpenSpec.ofChange s with cond := some uptoSmall }

/-- 'laws.FnUnsafeSASLHandshakeRequest', WHERE WHAT IT READS IS OF BULK AT MOST 1048576: true; the input reads as it did. -/
def fnUnsafeSASLHandshakeRequestUptoRow : OpenClaim := { program := "ytboohnhpcjagnaadoor", sum := "1074fe5be0b63055a48a01feab9a6f45f807ca2c22a1d771e4d096eb74906083", func := "pub-mailsack/laws.FnUnsafeSASLHandshakeRequest", spec := "fnUnsafeSASLHandshakeRequest", recurses := true, named := ["encoding/binary.BigEndian", "pub-mailsack/pub/kmsg/inner/kbin.ErrNotEnoughData"], apart := false, laid := [("pub-mailsack/pub/kmsg/inner/kbin.ErrNotEnoughData", laid_pub_mailsack_pub_kmsg_inner_kbin_ErrNotEnoughData)], narrowed := true }
def FnUnsafeSASLHandshakeRequestUptoSaid : Prop := fnUnsafeSASLHandshakeRequestUptoRow.holds Tryd.pinned (OpenSpec.upto fnUnsafeSASLHandshakeRequestSpec)

/-- 'laws.FnUnsafeConnectMemberMetadata', WHERE WHAT IT READS IS OF BULK AT MOST 1048576: true; the input reads as it did. -/
def fnUnsafeConnectMemberMetadataUptoRow : OpenClaim := { program := "ytboohnhpcjagnaadoor", sum := "1074fe5be0b63055a48a01feab9a6f45f807ca2c22a1d771e4d096eb74906083", func := "pub-mailsack/laws.FnUnsafeConnectMemberMetadata", spec := "fnUnsafeConnectMemberMetadata", recurses := true, named := ["encoding/binary.BigEndian", "pub-mailsack/pub/kmsg/inner/kbin.ErrNotEnoughData"], apart := false, laid := [("pub-mailsack/pub/kmsg/inner/kbin.ErrNotEnoughData", laid_pub_mailsack_pub_kmsg_inner_kbin_ErrNotEnoughData)], narrowed := true }
def FnUnsafeConnectMemberMetadataUptoSaid : Prop := fnUnsafeConnectMemberMetadataUptoRow.holds Tryd.pinned (OpenSpec.upto fnUnsafeConnectMemberMetadataSpec)

/-- 'laws.FnUnsafeControllerRegistrationResponse', WHERE WHAT IT READS IS OF BULK AT MOST 1048576: true; the input reads as it did. -/
def fnUnsafeControllerRegistrationResponseUptoRow : OpenClaim := { program := "ytboohnhpcjagnaadoor", sum := "1074fe5be0b63055a48a01feab9a6f45f807ca2c22a1d771e4d096eb74906083", func := "pub-mailsack/laws.FnUnsafeControllerRegistrationResponse", spec := "fnUnsafeControllerRegistrationResponse", inPlace := ["internal/reflectlite.ValueOf", "internal/reflectlite.Swapper", "(internal/reflectlite.Value).Len"], unfollowed := true, recurses := true, named := ["encoding/binary.BigEndian", "pub-mailsack/pub/kmsg/inner/kbin.ErrNotEnoughData"], apart := false, laid := [("pub-mailsack/pub/kmsg/inner/kbin.ErrNotEnoughData", laid_pub_mailsack_pub_kmsg_inner_kbin_ErrNotEnoughData)], narrowed := true }
def FnUnsafeControllerRegistrationResponseUptoSaid : Prop := fnUnsafeControllerRegistrationResponseUptoRow.holds Tryd.pinned (OpenSpec.upto fnUnsafeControllerRegistrationResponseSpec)

/-- 'laws.FnUnsafeEndTxnRequest', WHERE WHAT IT READS IS OF BULK AT MOST 1048576: true; the input reads as it did. -/
def fnUnsafeEndTxnRequestUptoRow : OpenClaim := { program := "ytboohnhpcjagnaadoor", sum := "1074fe5be0b63055a48a01feab9a6f45f807ca2c22a1d771e4d096eb74906083", func := "pub-mailsack/laws.FnUnsafeEndTxnRequest", spec := "fnUnsafeEndTxnRequest", inPlace := ["internal/reflectlite.ValueOf", "internal/reflectlite.Swapper", "(internal/reflectlite.Value).Len"], unfollowed := true, recurses := true, named := ["encoding/binary.BigEndian", "pub-mailsack/pub/kmsg/inner/kbin.ErrNotEnoughData"], apart := false, laid := [("pub-mailsack/pub/kmsg/inner/kbin.ErrNotEnoughData", laid_pub_mailsack_pub_kmsg_inner_kbin_ErrNotEnoughData)], narrowed := true }
def FnUnsafeEndTxnRequestUptoSaid : Prop := fnUnsafeEndTxnRequestUptoRow.holds Tryd.pinned (OpenSpec.upto fnUnsafeEndTxnRequestSpec)

/-- 'laws.FnUnsafeShareGroupDescribeRequest', WHERE WHAT IT READS IS OF BULK AT MOST 1048576: true; the input reads as it did. -/
def fnUnsafeShareGroupDescribeRequestUptoRow : OpenClaim := { program := "ytboohnhpcjagnaadoor", sum := "1074fe5be0b63055a48a01feab9a6f45f807ca2c22a1d771e4d096eb74906083", func := "pub-mailsack/laws.FnUnsafeShareGroupDescribeRequest", spec := "fnUnsafeShareGroupDescribeRequest", inPlace := ["internal/reflectlite.ValueOf", "internal/reflectlite.Swapper", "(internal/reflectlite.Value).Len"], unfollowed := true, recurses := true, named := ["encoding/binary.BigEndian", "pub-mailsack/pub/kmsg/inner/kbin.ErrNotEnoughData"], apart := false, laid := [("pub-mailsack/pub/kmsg/inner/kbin.ErrNotEnoughData", laid_pub_mailsack_pub_kmsg_inner_kbin_ErrNotEnoughData)], narrowed := true }
def FnUnsafeShareGroupDescribeRequestUptoSaid : Prop := fnUnsafeShareGroupDescribeRequestUptoRow.holds Tryd.pinned (OpenSpec.upto fnUnsafeShareGroupDescribeRequestSpec)

/-- 'laws.FnUnsafeStreamsGroupDescribeRequest', WHERE WHAT IT READS IS OF BULK AT MOST 1048576: true; the input reads as it did. -/
def fnUnsafeStreamsGroupDescribeRequestUptoRow : OpenClaim := { program := "ytboohnhpcjagnaadoor", sum := "1074fe5be0b63055a48a01feab9a6f45f807ca2c22a1d771e4d096eb74906083", func := "pub-mailsack/laws.FnUnsafeStreamsGroupDescribeRequest", spec := "fnUnsafeStreamsGroupDescribeRequest", inPlace := ["internal/reflectlite.ValueOf", "internal/reflectlite.Swapper", "(internal/reflectlite.Value).Len"], unfollowed := true, recurses := true, named := ["encoding/binary.BigEndian", "pub-mailsack/pub/kmsg/inner/kbin.ErrNotEnoughData"], apart := false, laid := [("pub-mailsack/pub/kmsg/inner/kbin.ErrNotEnoughData", laid_pub_mailsack_pub_kmsg_inner_kbin_ErrNotEnoughData)], narrowed := true }
def FnUnsafeStreamsGroupDescribeRequestUptoSaid : Prop := fnUnsafeStreamsGroupDescribeRequestUptoRow.holds Tryd.pinned (OpenSpec.upto fnUnsafeStreamsGroupDescribeRequestSpec)

/-- 'laws.FnUnsafeDeleteShareGroupOffsetsRequest', WHERE WHAT IT READS IS OF BULK AT MOST 1048576: true; the input reads as it did. -/
def fnUnsafeDeleteShareGroupOffsetsRequestUptoRow : OpenClaim := { program := "ytboohnhpcjagnaadoor", sum := "1074fe5be0b63055a48a01feab9a6f45f807ca2c22a1d771e4d096eb74906083", func := "pub-mailsack/laws.FnUnsafeDeleteShareGroupOffsetsRequest", spec := "fnUnsafeDeleteShareGroupOffsetsRequest", inPlace := ["internal/reflectlite.ValueOf", "internal/reflectlite.Swapper", "(internal/reflectlite.Value).Len"], unfollowed := true, recurses := true, named := ["encoding/binary.BigEndian", "pub-mailsack/pub/kmsg/inner/kbin.ErrNotEnoughData"], apart := false, laid := [("pub-mailsack/pub/kmsg/inner/kbin.ErrNotEnoughData", laid_pub_mailsack_pub_kmsg_inner_kbin_ErrNotEnoughData)], narrowed := true }
def FnUnsafeDeleteShareGroupOffsetsRequestUptoSaid : Prop := fnUnsafeDeleteShareGroupOffsetsRequestUptoRow.holds Tryd.pinned (OpenSpec.upto fnUnsafeDeleteShareGroupOffsetsRequestSpec)

/-- 'laws.FnUnsafeDescribeACLsRequest', WHERE WHAT IT READS IS OF BULK AT MOST 1048576: true; the input reads as it did. -/
def fnUnsafeDescribeACLsRequestUptoRow : OpenClaim := { program := "ytboohnhpcjagnaadoor", sum := "1074fe5be0b63055a48a01feab9a6f45f807ca2c22a1d771e4d096eb74906083", func := "pub-mailsack/laws.FnUnsafeDescribeACLsRequest", spec := "fnUnsafeDescribeACLsRequest", inPlace := ["internal/reflectlite.ValueOf", "internal/reflectlite.Swapper", "(internal/reflectlite.Value).Len"], unfollowed := true, recurses := true, named := ["encoding/binary.BigEndian", "pub-mailsack/pub/kmsg/inner/kbin.ErrNotEnoughData"], apart := false, laid := [("pub-mailsack/pub/kmsg/inner/kbin.ErrNotEnoughData", laid_pub_mailsack_pub_kmsg_inner_kbin_ErrNotEnoughData)], narrowed := true }
def FnUnsafeDescribeACLsRequestUptoSaid : Prop := fnUnsafeDescribeACLsRequestUptoRow.holds Tryd.pinned (OpenSpec.upto fnUnsafeDescribeACLsRequestSpec)

/-- 'laws.FnUnsafeBrokerHeartbeatRequest', WHERE WHAT IT READS IS OF BULK AT MOST 1048576: true; the input reads as it did. -/
def fnUnsafeBrokerHeartbeatRequestUptoRow : OpenClaim := { program := "ytboohnhpcjagnaadoor", sum := "1074fe5be0b63055a48a01feab9a6f45f807ca2c22a1d771e4d096eb74906083", func := "pub-mailsack/laws.FnUnsafeBrokerHeartbeatRequest", spec := "fnUnsafeBrokerHeartbeatRequest", inPlace := ["internal/reflectlite.ValueOf", "internal/reflectlite.Swapper", "(internal/reflectlite.Value).Len"], unfollowed := true, recurses := true, named := ["encoding/binary.BigEndian", "pub-mailsack/pub/kmsg/inner/kbin.ErrNotEnoughData"], apart := false, laid := [("pub-mailsack/pub/kmsg/inner/kbin.ErrNotEnoughData", laid_pub_mailsack_pub_kmsg_inner_kbin_ErrNotEnoughData)], narrowed := true }
def FnUnsafeBrokerHeartbeatRequestUptoSaid : Prop := fnUnsafeBrokerHeartbeatRequestUptoRow.holds Tryd.pinned (OpenSpec.upto fnUnsafeBrokerHeartbeatRequestSpec)

/-- 'laws.FnUnsafeCreatePartitionsResponse', WHERE WHAT IT READS IS OF BULK AT MOST 1048576: true; the input reads as it did. -/
def fnUnsafeCreatePartitionsResponseUptoRow : OpenClaim := { program := "ytboohnhpcjagnaadoor", sum := "1074fe5be0b63055a48a01feab9a6f45f807ca2c22a1d771e4d096eb74906083", func := "pub-mailsack/laws.FnUnsafeCreatePartitionsResponse", spec := "fnUnsafeCreatePartitionsResponse", inPlace := ["internal/reflectlite.ValueOf", "internal/reflectlite.Swapper", "(internal/reflectlite.Value).Len"], unfollowed := true, recurses := true, named := ["encoding/binary.BigEndian", "pub-mailsack/pub/kmsg/inner/kbin.ErrNotEnoughData"], apart := false, laid := [("pub-mailsack/pub/kmsg/inner/kbin.ErrNotEnoughData", laid_pub_mailsack_pub_kmsg_inner_kbin_ErrNotEnoughData)], narrowed := true }
def FnUnsafeCreatePartitionsResponseUptoSaid : Prop := fnUnsafeCreatePartitionsResponseUptoRow.holds Tryd.pinned (OpenSpec.upto fnUnsafeCreatePartitionsResponseSpec)

end Rows
end Go.Proofs.YtboohnhpcjagnaaDoor
