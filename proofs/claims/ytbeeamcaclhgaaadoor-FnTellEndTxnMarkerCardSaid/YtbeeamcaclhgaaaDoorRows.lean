/-
  NARROWER THAN 'FOR EVERY INPUT', by the rows' own cells (each row's printed sentence says how): FnTellEndTxnMarker: loops, laid · FnTellGetTelemetrySubscriptionsRequest: loops, laid · FnTellUnregisterControllerRequest: loops, laid · FnTellHeartbeatResponse: loops, laid · FnTellRenewDelegationTokenResponse: loops, laid · FnTellEnvelopeResponse: loops, laid · FnTellAddRaftVoterResponse: loops, laid · FnTellRemoveRaftVoterRequest: loops, laid.
  DERIVED. THE GIVEN ROWS OF THIS SEAT. 8 by the template 'for every input the law returns true; each argument reads behind the call as it read before'; 0 by the template 'total and deterministic' (their statements: YtbeeamcaclhgaaaDoorTotals.lean).
  GIVEN WITH THE SEED: the statements are not yours to turn. If you find one false, say at which input.
  Laid BY PROGRAM, IN A SANDBOX (cutbox-rows.mjs): the forced cells as the released guide's own fill.sh prints them over the translation 8753ca2a31f9f681… (all of the seat's roots in one cut). By AI agents, Wed Nov 11 2026. No macro, syntax, notation, axiom, sorry.
-/
import Derived.Test.YtbeeamcaclhgaaaDoorChecked
import GoSem.Claim
import GoSem.ClaimJoined
import GoSem.ClaimMapViews
import Derived.JoinedTies
import Derived.KernelRfl
namespace Go.Proofs.YtbeeamcaclhgaaaDoor
/- THE CELL 'sum', in the pinned program and in every row, IS THE sha256 OF THE DUMP (.gsa) THAT YtbeeamcaclhgaaaDoorProg.lean LOADS. Nothing in Lean hashes anything: it is a label: what it is worth is what the hold of that sum in a sandbox is worth. -/
noncomputable def Tryd.pinned : Pinned := { name := "ytbeeamcaclhgaaadoor", sum := "8753ca2a31f9f681a18baf21e3e6f64f6dd61a5cd43ac0bbc3a0d5b915837aad", checked := Tryd.checked }
namespace Rows
def none {H : Type} : Left H := { results := [], args := [] }

/- WHAT THE LISTED PACKAGE-LEVEL VARIABLES READ AS WHEN THE CALL BEGINS. Each datum BY PROGRAM (the guide's laid-datum.mjs) off the statement by which the dump's own 'gosem.cut.vars' lays the variable. In a bare row this is a premise. The card (YtbeeamcaclhgaaaDoorCards.lean) ties it to the program's text. -/
def laid_pub_mailsack_pub_kmsg_inner_kbin_ErrNotEnoughData {H : Type} : DataW H := .iface "*errors.errorString" (.ptr (.agg [.lit (.string [114, 101, 115, 112, 111, 110, 115, 101, 32, 100, 105, 100, 32, 110, 111, 116, 32, 99, 111, 110, 116, 97, 105, 110, 32, 101, 110, 111, 117, 103, 104, 32, 100, 97, 116, 97, 32, 116, 111, 32, 98, 101, 32, 118, 97, 108, 105, 100])]))

/-- 'laws.FnTellEndTxnMarker': WHATEVER THE INPUT: true; the input reads as it did. -/
def fnTellEndTxnMarkerSpec : ChangeSpec := { name := "fnTellEndTxnMarker", fn := fun _ => fun
  | [d1, d2] => { results := [.lit (.bool true)], args := [d1, d2] }
  | _ => none }
def fnTellEndTxnMarkerRow : OpenClaim := { program := "ytbeeamcaclhgaaadoor", sum := "8753ca2a31f9f681a18baf21e3e6f64f6dd61a5cd43ac0bbc3a0d5b915837aad", func := "pub-mailsack/laws.FnTellEndTxnMarker", spec := "fnTellEndTxnMarker", recurses := true, named := ["encoding/binary.BigEndian", "pub-mailsack/pub/kmsg/inner/kbin.ErrNotEnoughData"], loops := true, apart := false, laid := [("pub-mailsack/pub/kmsg/inner/kbin.ErrNotEnoughData", laid_pub_mailsack_pub_kmsg_inner_kbin_ErrNotEnoughData)] }
def FnTellEndTxnMarkerSaid : Prop := fnTellEndTxnMarkerRow.holds Tryd.pinned (OpenSpec.ofChange fnTellEndTxnMarkerSpec)

/-- ITS FALSE NEIGHBOUR: 'it returns false'. Refute it at one input. -/
def fnTellEndTxnMarkerWrong : ChangeSpec := { name := "fnTellEndTxnMarker", fn := fun _ => fun
  | [d1, d2] => { results := [.lit (.bool false)], args := [d1, d2] }
  | _ => none }
def FnTellEndTxnMarkerWrongFalsely : Prop := fnTellEndTxnMarkerRow.holds Tryd.pinned (OpenSpec.ofChange fnTellEndTxnMarkerWrong)

/-- 'laws.FnTellGetTelemetrySubscriptionsRequest': WHATEVER THE INPUT: true; the input reads as it did. -/
def fnTellGetTelemetrySubscriptionsRequestSpec : ChangeSpec := { name := "fnTellGetTelemetrySubscriptionsRequest", fn := fun _ => fun
  | [d1, d2] => { results := [.lit (.bool true)], args := [d1, d2] }
  | _ => none }
def fnTellGetTelemetrySubscriptionsRequestRow : OpenClaim := { program := "ytbeeamcaclhgaaadoor", sum := "8753ca2a31f9f681a18baf21e3e6f64f6dd61a5cd43ac0bbc3a0d5b915837aad", func := "pub-mailsack/laws.FnTellGetTelemetrySubscriptionsRequest", spec := "fnTellGetTelemetrySubscriptionsRequest", inPlace := ["internal/reflectlite.ValueOf", "internal/reflectlite.Swapper", "(internal/reflectlite.Value).Len"], unfollowed := true, recurses := true, named := ["pub-mailsack/pub/kmsg/inner/kbin.ErrNotEnoughData"], loops := true, apart := false, laid := [("pub-mailsack/pub/kmsg/inner/kbin.ErrNotEnoughData", laid_pub_mailsack_pub_kmsg_inner_kbin_ErrNotEnoughData)] }
def FnTellGetTelemetrySubscriptionsRequestSaid : Prop := fnTellGetTelemetrySubscriptionsRequestRow.holds Tryd.pinned (OpenSpec.ofChange fnTellGetTelemetrySubscriptionsRequestSpec)

/-- ITS FALSE NEIGHBOUR: 'it returns false'. Refute it at one input. -/
def fnTellGetTelemetrySubscriptionsRequestWrong : ChangeSpec := { name := "fnTellGetTelemetrySubscriptionsRequest", fn := fun _ => fun
  | [d1, d2] => { results := [.lit (.bool false)], args := [d1, d2] }
  | _ => none }
def FnTellGetTelemetrySubscriptionsRequestWrongFalsely : Prop := fnTellGetTelemetrySubscriptionsRequestRow.holds Tryd.pinned (OpenSpec.ofChange fnTellGetTelemetrySubscriptionsRequestWrong)

/-- 'laws.FnTellUnregisterControllerRequest': WHATEVER THE INPUT: true; the input reads as it did. -/
def fnTellUnregisterControllerRequestSpec : ChangeSpec := { name := "fnTellUnregisterControllerRequest", fn := fun _ => fun
  | [d1, d2] => { results := [.lit (.bool true)], args := [d1, d2] }
  | _ => none }
def fnTellUnregisterControllerRequestRow : OpenClaim := { program := "ytbeeamcaclhgaaadoor", sum := "8753ca2a31f9f681a18baf21e3e6f64f6dd61a5cd43ac0bbc3a0d5b915837aad", func := "pub-mailsack/laws.FnTellUnregisterControllerRequest", spec := "fnTellUnregisterControllerRequest", inPlace := ["internal/reflectlite.ValueOf", "internal/reflectlite.Swapper", "(internal/reflectlite.Value).Len"], unfollowed := true, recurses := true, named := ["encoding/binary.BigEndian", "pub-mailsack/pub/kmsg/inner/kbin.ErrNotEnoughData"], loops := true, apart := false, laid := [("pub-mailsack/pub/kmsg/inner/kbin.ErrNotEnoughData", laid_pub_mailsack_pub_kmsg_inner_kbin_ErrNotEnoughData)] }
def FnTellUnregisterControllerRequestSaid : Prop := fnTellUnregisterControllerRequestRow.holds Tryd.pinned (OpenSpec.ofChange fnTellUnregisterControllerRequestSpec)

/-- ITS FALSE NEIGHBOUR: 'it returns false'. Refute it at one input. -/
def fnTellUnregisterControllerRequestWrong : ChangeSpec := { name := "fnTellUnregisterControllerRequest", fn := fun _ => fun
  | [d1, d2] => { results := [.lit (.bool false)], args := [d1, d2] }
  | _ => none }
def FnTellUnregisterControllerRequestWrongFalsely : Prop := fnTellUnregisterControllerRequestRow.holds Tryd.pinned (OpenSpec.ofChange fnTellUnregisterControllerRequestWrong)

/-- 'laws.FnTellHeartbeatResponse': WHATEVER THE INPUT: true; the input reads as it did. -/
def fnTellHeartbeatResponseSpec : ChangeSpec := { name := "fnTellHeartbeatResponse", fn := fun _ => fun
  | [d1, d2] => { results := [.lit (.bool true)], args := [d1, d2] }
  | _ => none }
def fnTellHeartbeatResponseRow : OpenClaim := { program := "ytbeeamcaclhgaaadoor", sum := "8753ca2a31f9f681a18baf21e3e6f64f6dd61a5cd43ac0bbc3a0d5b915837aad", func := "pub-mailsack/laws.FnTellHeartbeatResponse", spec := "fnTellHeartbeatResponse", inPlace := ["internal/reflectlite.ValueOf", "internal/reflectlite.Swapper", "(internal/reflectlite.Value).Len"], unfollowed := true, recurses := true, named := ["encoding/binary.BigEndian", "pub-mailsack/pub/kmsg/inner/kbin.ErrNotEnoughData"], loops := true, apart := false, laid := [("pub-mailsack/pub/kmsg/inner/kbin.ErrNotEnoughData", laid_pub_mailsack_pub_kmsg_inner_kbin_ErrNotEnoughData)] }
def FnTellHeartbeatResponseSaid : Prop := fnTellHeartbeatResponseRow.holds Tryd.pinned (OpenSpec.ofChange fnTellHeartbeatResponseSpec)

/-- ITS FALSE NEIGHBOUR: 'it returns false'. Refute it at one input. -/
def fnTellHeartbeatResponseWrong : ChangeSpec := { name := "fnTellHeartbeatResponse", fn := fun _ => fun
  | [d1, d2] => { results := [.lit (.bool false)], args := [d1, d2] }
  | _ => none }
def FnTellHeartbeatResponseWrongFalsely : Prop := fnTellHeartbeatResponseRow.holds Tryd.pinned (OpenSpec.ofChange fnTellHeartbeatResponseWrong)

/-- 'laws.FnTellRenewDelegationTokenResponse': WHATEVER THE INPUT: true; the input reads as it did. -/
def fnTellRenewDelegationTokenResponseSpec : ChangeSpec := { name := "fnTellRenewDelegationTokenResponse", fn := fun _ => fun
  | [d1, d2] => { results := [.lit (.bool true)], args := [d1, d2] }
  | _ => none }
def fnTellRenewDelegationTokenResponseRow : OpenClaim := { program := "ytbeeamcaclhgaaadoor", sum := "8753ca2a31f9f681a18baf21e3e6f64f6dd61a5cd43ac0bbc3a0d5b915837aad", func := "pub-mailsack/laws.FnTellRenewDelegationTokenResponse", spec := "fnTellRenewDelegationTokenResponse", inPlace := ["internal/reflectlite.ValueOf", "internal/reflectlite.Swapper", "(internal/reflectlite.Value).Len"], unfollowed := true, recurses := true, named := ["encoding/binary.BigEndian", "pub-mailsack/pub/kmsg/inner/kbin.ErrNotEnoughData"], loops := true, apart := false, laid := [("pub-mailsack/pub/kmsg/inner/kbin.ErrNotEnoughData", laid_pub_mailsack_pub_kmsg_inner_kbin_ErrNotEnoughData)] }
def FnTellRenewDelegationTokenResponseSaid : Prop := fnTellRenewDelegationTokenResponseRow.holds Tryd.pinned (OpenSpec.ofChange fnTellRenewDelegationTokenResponseSpec)

/-- ITS FALSE NEIGHBOUR: 'it returns false'. Refute it at one input. -/
def fnTellRenewDelegationTokenResponseWrong : ChangeSpec := { name := "fnTellRenewDelegationTokenResponse", fn := fun _ => fun
  | [d1, d2] => { results := [.lit (.bool false)], args := [d1, d2] }
  | _ => none }
def FnTellRenewDelegationTokenResponseWrongFalsely : Prop := fnTellRenewDelegationTokenResponseRow.holds Tryd.pinned (OpenSpec.ofChange fnTellRenewDelegationTokenResponseWrong)

/-- 'laws.FnTellEnvelopeResponse': WHATEVER THE INPUT: true; the input reads as it did. -/
def fnTellEnvelopeResponseSpec : ChangeSpec := { name := "fnTellEnvelopeResponse", fn := fun _ => fun
  | [d1, d2] => { results := [.lit (.bool true)], args := [d1, d2] }
  | _ => none }
def fnTellEnvelopeResponseRow : OpenClaim := { program := "ytbeeamcaclhgaaadoor", sum := "8753ca2a31f9f681a18baf21e3e6f64f6dd61a5cd43ac0bbc3a0d5b915837aad", func := "pub-mailsack/laws.FnTellEnvelopeResponse", spec := "fnTellEnvelopeResponse", inPlace := ["internal/reflectlite.ValueOf", "internal/reflectlite.Swapper", "(internal/reflectlite.Value).Len"], unfollowed := true, recurses := true, named := ["encoding/binary.BigEndian", "pub-mailsack/pub/kmsg/inner/kbin.ErrNotEnoughData"], loops := true, apart := false, laid := [("pub-mailsack/pub/kmsg/inner/kbin.ErrNotEnoughData", laid_pub_mailsack_pub_kmsg_inner_kbin_ErrNotEnoughData)] }
def FnTellEnvelopeResponseSaid : Prop := fnTellEnvelopeResponseRow.holds Tryd.pinned (OpenSpec.ofChange fnTellEnvelopeResponseSpec)

/-- ITS FALSE NEIGHBOUR: 'it returns false'. Refute it at one input. -/
def fnTellEnvelopeResponseWrong : ChangeSpec := { name := "fnTellEnvelopeResponse", fn := fun _ => fun
  | [d1, d2] => { results := [.lit (.bool false)], args := [d1, d2] }
  | _ => none }
def FnTellEnvelopeResponseWrongFalsely : Prop := fnTellEnvelopeResponseRow.holds Tryd.pinned (OpenSpec.ofChange fnTellEnvelopeResponseWrong)

/-- 'laws.FnTellAddRaftVoterResponse': WHATEVER THE INPUT: true; the input reads as it did. -/
def fnTellAddRaftVoterResponseSpec : ChangeSpec := { name := "fnTellAddRaftVoterResponse", fn := fun _ => fun
  | [d1, d2] => { results := [.lit (.bool true)], args := [d1, d2] }
  | _ => none }
def fnTellAddRaftVoterResponseRow : OpenClaim := { program := "ytbeeamcaclhgaaadoor", sum := "8753ca2a31f9f681a18baf21e3e6f64f6dd61a5cd43ac0bbc3a0d5b915837aad", func := "pub-mailsack/laws.FnTellAddRaftVoterResponse", spec := "fnTellAddRaftVoterResponse", inPlace := ["internal/reflectlite.ValueOf", "internal/reflectlite.Swapper", "(internal/reflectlite.Value).Len"], unfollowed := true, recurses := true, named := ["encoding/binary.BigEndian", "pub-mailsack/pub/kmsg/inner/kbin.ErrNotEnoughData"], loops := true, apart := false, laid := [("pub-mailsack/pub/kmsg/inner/kbin.ErrNotEnoughData", laid_pub_mailsack_pub_kmsg_inner_kbin_ErrNotEnoughData)] }
def FnTellAddRaftVoterResponseSaid : Prop := fnTellAddRaftVoterResponseRow.holds Tryd.pinned (OpenSpec.ofChange fnTellAddRaftVoterResponseSpec)

/-- ITS FALSE NEIGHBOUR: 'it returns false'. Refute it at one input. -/
def fnTellAddRaftVoterResponseWrong : ChangeSpec := { name := "fnTellAddRaftVoterResponse", fn := fun _ => fun
  | [d1, d2] => { results := [.lit (.bool false)], args := [d1, d2] }
  | _ => none }
def FnTellAddRaftVoterResponseWrongFalsely : Prop := fnTellAddRaftVoterResponseRow.holds Tryd.pinned (OpenSpec.ofChange fnTellAddRaftVoterResponseWrong)

/-- 'laws.FnTellRemoveRaftVoterRequest': WHATEVER THE INPUT: true; the input reads as it did. -/
def fnTellRemoveRaftVoterRequestSpec : ChangeSpec := { name := "fnTellRemoveRaftVoterRequest", fn := fun _ => fun
  | [d1, d2] => { results := [.lit (.bool true)], args := [d1, d2] }
  | _ => none }
def fnTellRemoveRaftVoterRequestRow : OpenClaim := { program := "ytbeeamcaclhgaaadoor", sum := "8753ca2a31f9f681a18baf21e3e6f64f6dd61a5cd43ac0bbc3a0d5b915837aad", func := "pub-mailsack/laws.FnTellRemoveRaftVoterRequest", spec := "fnTellRemoveRaftVoterRequest", inPlace := ["internal/reflectlite.ValueOf", "internal/reflectlite.Swapper", "(internal/reflectlite.Value).Len"], unfollowed := true, recurses := true, named := ["encoding/binary.BigEndian", "pub-mailsack/pub/kmsg/inner/kbin.ErrNotEnoughData"], loops := true, apart := false, laid := [("pub-mailsack/pub/kmsg/inner/kbin.ErrNotEnoughData", laid_pub_mailsack_pub_kmsg_inner_kbin_ErrNotEnoughData)] }
def FnTellRemoveRaftVoterRequestSaid : Prop := fnTellRemoveRaftVoterRequestRow.holds Tryd.pinned (OpenSpec.ofChange fnTellRemoveRaftVoterRequestSpec)

/-- ITS FALSE NEIGHBOUR: 'it returns false'. Refute it at one input. -/
def fnTellRemoveRaftVoterRequestWrong : ChangeSpec := { name := "fnTellRemoveRaftVoterRequest", fn := fun _ => fun
  | [d1, d2] => { results := [.lit (.bool false)], args := [d1, d2] }
  | _ => none }
def FnTellRemoveRaftVoterRequestWrongFalsely : Prop := fnTellRemoveRaftVoterRequestRow.holds Tryd.pinned (OpenSpec.ofChange fnTellRemoveRaftVoterRequestWrong)

/- THE SECOND FORM. 'bulk': how many values and letters a reading holds, each counted each time it is reached (what is shared counts as often as it is met; a slice's spare places count too). A statement '..UptoSaid' is the law's where the arguments, and the package variables that the reading takes, are together of bulk at most 1048576: NARROWER than '..Said'. Prove '..Said' where nothing that the law and all that it calls make is longer than what came in: it says more and counts as full. Else prove '..UptoSaid'. A law counts once. -/
mutual
def uptoBulk {H : Type} : DataW H → Nat
  | .lit (.string bytes) => bytes.length + 1
  | .lit _ => 1
  | .nil => 1
  | .ptr d => uptoBulk d + 1
  | .slice elems spare => uptoBulkAll elems + uptoBulkAll spare + 1
  | .agg parts => uptoBulkAll parts + 1
  | .iface _ d => uptoBulk d + 1
  | .map entries => uptoBulkEntries entries + 1
  | .held _ => 1
def uptoBulkAll {H : Type} : List (DataW H) → Nat
  | [] => 0
  | d :: r => uptoBulk d + uptoBulkAll r
def uptoBulkEntries {H : Type} : List (Lit × DataW H) → Nat
  | [] => 0
  | x :: r => uptoBulkEntry x + uptoBulkEntries r
def uptoBulkEntry {H : Type} : Lit × DataW H → Nat
  | (.string bytes, d) => bytes.length + uptoBulk d + 1
  | (_, d) => uptoBulk d + 1
 end
def uptoSmall : (H : Type) → List (DataW H) → Bool := fun _ ds => decide (uptoBulkAll ds ≤ 1048576)
def OpenSpec.upto (s : _root_.Go.ChangeSpec) : _root_.Go.OpenSpec := { _root_.Go.OpenSpec.ofChange s with cond := some uptoSmall }

/-- 'laws.FnTellEndTxnMarker', WHERE WHAT IT READS IS OF BULK AT MOST 1048576: true; the input reads as it did. -/
def fnTellEndTxnMarkerUptoRow : OpenClaim := { program := "ytbeeamcaclhgaaadoor", sum := "8753ca2a31f9f681a18baf21e3e6f64f6dd61a5cd43ac0bbc3a0d5b915837aad", func := "pub-mailsack/laws.FnTellEndTxnMarker", spec := "fnTellEndTxnMarker", recurses := true, named := ["encoding/binary.BigEndian", "pub-mailsack/pub/kmsg/inner/kbin.ErrNotEnoughData"], loops := true, apart := false, laid := [("pub-mailsack/pub/kmsg/inner/kbin.ErrNotEnoughData", laid_pub_mailsack_pub_kmsg_inner_kbin_ErrNotEnoughData)], narrowed := true }
def FnTellEndTxnMarkerUptoSaid : Prop := fnTellEndTxnMarkerUptoRow.holds Tryd.pinned (OpenSpec.upto fnTellEndTxnMarkerSpec)

/-- 'laws.FnTellGetTelemetrySubscriptionsRequest', WHERE WHAT IT READS IS OF BULK AT MOST 1048576: true; the input reads as it did. -/
def fnTellGetTelemetrySubscriptionsRequestUptoRow : OpenClaim := { program := "ytbeeamcaclhgaaadoor", sum := "8753ca2a31f9f681a18baf21e3e6f64f6dd61a5cd43ac0bbc3a0d5b915837aad", func := "pub-mailsack/laws.FnTellGetTelemetrySubscriptionsRequest", spec := "fnTellGetTelemetrySubscriptionsRequest", inPlace := ["internal/reflectlite.ValueOf", "internal/reflectlite.Swapper", "(internal/reflectlite.Value).Len"], unfollowed := true, recurses := true, named := ["pub-mailsack/pub/kmsg/inner/kbin.ErrNotEnoughData"], loops := true, apart := false, laid := [("pub-mailsack/pub/kmsg/inner/kbin.ErrNotEnoughData", laid_pub_mailsack_pub_kmsg_inner_kbin_ErrNotEnoughData)], narrowed := true }
def FnTellGetTelemetrySubscriptionsRequestUptoSaid : Prop := fnTellGetTelemetrySubscriptionsRequestUptoRow.holds Tryd.pinned (OpenSpec.upto fnTellGetTelemetrySubscriptionsRequestSpec)

/-- 'laws.FnTellUnregisterControllerRequest', WHERE WHAT IT READS IS OF BULK AT MOST 1048576: true; the input reads as it did. -/
def fnTellUnregisterControllerRequestUptoRow : OpenClaim := { program := "ytbeeamcaclhgaaadoor", sum := "8753ca2a31f9f681a18baf21e3e6f64f6dd61a5cd43ac0bbc3a0d5b915837aad", func := "pub-mailsack/laws.FnTellUnregisterControllerRequest", spec := "fnTellUnregisterControllerRequest", inPlace := ["internal/reflectlite.ValueOf", "internal/reflectlite.Swapper", "(internal/reflectlite.Value).Len"], unfollowed := true, recurses := true, named := ["encoding/binary.BigEndian", "pub-mailsack/pub/kmsg/inner/kbin.ErrNotEnoughData"], loops := true, apart := false, laid := [("pub-mailsack/pub/kmsg/inner/kbin.ErrNotEnoughData", laid_pub_mailsack_pub_kmsg_inner_kbin_ErrNotEnoughData)], narrowed := true }
def FnTellUnregisterControllerRequestUptoSaid : Prop := fnTellUnregisterControllerRequestUptoRow.holds Tryd.pinned (OpenSpec.upto fnTellUnregisterControllerRequestSpec)

/-- 'laws.FnTellHeartbeatResponse', WHERE WHAT IT READS IS OF BULK AT MOST 1048576: true; the input reads as it did. -/
def fnTellHeartbeatResponseUptoRow : OpenClaim := { program := "ytbeeamcaclhgaaadoor", sum := "8753ca2a31f9f681a18baf21e3e6f64f6dd61a5cd43ac0bbc3a0d5b915837aad", func := "pub-mailsack/laws.FnTellHeartbeatResponse", spec := "fnTellHeartbeatResponse", inPlace := ["internal/reflectlite.ValueOf", "internal/reflectlite.Swapper", "(internal/reflectlite.Value).Len"], unfollowed := true, recurses := true, named := ["encoding/binary.BigEndian", "pub-mailsack/pub/kmsg/inner/kbin.ErrNotEnoughData"], loops := true, apart := false, laid := [("pub-mailsack/pub/kmsg/inner/kbin.ErrNotEnoughData", laid_pub_mailsack_pub_kmsg_inner_kbin_ErrNotEnoughData)], narrowed := true }
def FnTellHeartbeatResponseUptoSaid : Prop := fnTellHeartbeatResponseUptoRow.holds Tryd.pinned (OpenSpec.upto fnTellHeartbeatResponseSpec)

/-- 'laws.FnTellRenewDelegationTokenResponse', WHERE WHAT IT READS IS OF BULK AT MOST 1048576: true; the input reads as it did. -/
def fnTellRenewDelegationTokenResponseUptoRow : OpenClaim := { program := "ytbeeamcaclhgaaadoor", sum := "8753ca2a31f9f681a18baf21e3e6f64f6dd61a5cd43ac0bbc3a0d5b915837aad", func := "pub-mailsack/laws.FnTellRenewDelegationTokenResponse", spec := "fnTellRenewDelegationTokenResponse", inPlace := ["internal/reflectlite.ValueOf", "internal/reflectlite.Swapper", "(internal/reflectlite.Value).Len"], unfollowed := true, recurses := true, named := ["encoding/binary.BigEndian", "pub-mailsack/pub/kmsg/inner/kbin.ErrNotEnoughData"], loops := true, apart := false, laid := [("pub-mailsack/pub/kmsg/inner/kbin.ErrNotEnoughData", laid_pub_mailsack_pub_kmsg_inner_kbin_ErrNotEnoughData)], narrowed := true }
def FnTellRenewDelegationTokenResponseUptoSaid : Prop := fnTellRenewDelegationTokenResponseUptoRow.holds Tryd.pinned (OpenSpec.upto fnTellRenewDelegationTokenResponseSpec)

/-- 'laws.FnTellEnvelopeResponse', WHERE WHAT IT READS IS OF BULK AT MOST 1048576: true; the input reads as it did. -/
def fnTellEnvelopeResponseUptoRow : OpenClaim := { program := "ytbeeamcaclhgaaadoor", sum := "8753ca2a31f9f681a18baf21e3e6f64f6dd61a5cd43ac0bbc3a0d5b915837aad", func := "pub-mailsack/laws.FnTellEnvelopeResponse", spec := "fnTellEnvelopeResponse", inPlace := ["internal/reflectlite.ValueOf", "internal/reflectlite.Swapper", "(internal/reflectlite.Value).Len"], unfollowed := true, recurses := true, named := ["encoding/binary.BigEndian", "pub-mailsack/pub/kmsg/inner/kbin.ErrNotEnoughData"], loops := true, apart := false, laid := [("pub-mailsack/pub/kmsg/inner/kbin.ErrNotEnoughData", laid_pub_mailsack_pub_kmsg_inner_kbin_ErrNotEnoughData)], narrowed := true }
def FnTellEnvelopeResponseUptoSaid : Prop := fnTellEnvelopeResponseUptoRow.holds Tryd.pinned (OpenSpec.upto fnTellEnvelopeResponseSpec)

/-- 'laws.FnTellAddRaftVoterResponse', WHERE WHAT IT READS IS OF BULK AT MOST 1048576: true; the input reads as it did. -/
def fnTellAddRaftVoterResponseUptoRow : OpenClaim := { program := "ytbeeamcaclhgaaadoor", sum := "8753ca2a31f9f681a18baf21e3e6f64f6dd61a5cd43ac0bbc3a0d5b915837aad", func := "pub-mailsack/laws.FnTellAddRaftVoterResponse", spec := "fnTellAddRaftVoterResponse", inPlace := ["internal/reflectlite.ValueOf", "internal/reflectlite.Swapper", "(internal/reflectlite.Value).Len"], unfollowed := true, recurses := true, named := ["encoding/binary.BigEndian", "pub-mailsack/pub/kmsg/inner/kbin.ErrNotEnoughData"], loops := true, apart := false, laid := [("pub-mailsack/pub/kmsg/inner/kbin.ErrNotEnoughData", laid_pub_mailsack_pub_kmsg_inner_kbin_ErrNotEnoughData)], narrowed := true }
def FnTellAddRaftVoterResponseUptoSaid : Prop := fnTellAddRaftVoterResponseUptoRow.holds Tryd.pinned (OpenSpec.upto fnTellAddRaftVoterResponseSpec)

/-- 'laws.FnTellRemoveRaftVoterRequest', WHERE WHAT IT READS IS OF BULK AT MOST 1048576: true; the input reads as it did. -/
def fnTellRemoveRaftVoterRequestUptoRow : OpenClaim := { program := "ytbeeamcaclhgaaadoor", sum := "8753ca2a31f9f681a18baf21e3e6f64f6dd61a5cd43ac0bbc3a0d5b915837aad", func := "pub-mailsack/laws.FnTellRemoveRaftVoterRequest", spec := "fnTellRemoveRaftVoterRequest", inPlace := ["internal/reflectlite.ValueOf", "internal/reflectlite.Swapper", "(internal/reflectlite.Value).Len"], unfollowed := true, recurses := true, named := ["encoding/binary.BigEndian", "pub-mailsack/pub/kmsg/inner/kbin.ErrNotEnoughData"], loops := true, apart := false, laid := [("pub-mailsack/pub/kmsg/inner/kbin.ErrNotEnoughData", laid_pub_mailsack_pub_kmsg_inner_kbin_ErrNotEnoughData)], narrowed := true }
def FnTellRemoveRaftVoterRequestUptoSaid : Prop := fnTellRemoveRaftVoterRequestUptoRow.holds Tryd.pinned (OpenSpec.upto fnTellRemoveRaftVoterRequestSpec)

end Rows
end Go.Proofs.YtbeeamcaclhgaaaDoor
