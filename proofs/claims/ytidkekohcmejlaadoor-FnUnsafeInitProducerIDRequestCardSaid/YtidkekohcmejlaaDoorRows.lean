/-
  NARROWER THAN 'FOR EVERY INPUT', by the rows' own cells (each row's printed sentence says how): FnUnsafeShareAcknowledgeResponse: laid · FnUnsafeDeleteShareGroupStateResponse: laid · FnUnsafeInitProducerIDRequest: laid · FnTellHeartbeatResponse: loops, laid · FnTellUnregisterControllerRequest: loops, laid · FnTellEnvelopeResponse: loops, laid · FnTellAddRaftVoterResponse: loops, laid.
  DERIVED. THE GIVEN ROWS OF THIS SEAT. 7 by the template 'for every input the law returns true; each argument reads behind the call as it read before'; 0 by the template 'total and deterministic' (their statements: YtidkekohcmejlaaDoorTotals.lean).
  GIVEN WITH THE SEED: the statements are not yours to turn. If you find one false, say at which input.
  Laid BY PROGRAM, IN A SANDBOX (cutbox-rows.mjs): the forced cells as the released guide's own fill.sh prints them over the translation 3a13d8bb839bf25c… (all of the seat's roots in one cut). By AI agents, Wed Nov 11 2026. No macro, syntax, notation, axiom, sorry.
-/
import Derived.Test.YtidkekohcmejlaaDoorChecked
import GoSem.Claim
import GoSem.ClaimJoined
import GoSem.ClaimMapViews
import Derived.JoinedTies
import Derived.KernelRfl
namespace Go.Proofs.YtidkekohcmejlaaDoor
/- THE CELL 'sum', in the pinned program and in every row, IS THE sha256 OF THE DUMP (.gsa) THAT YtidkekohcmejlaaDoorProg.lean LOADS. Nothing in Lean hashes anything: it is a label: what it is worth is what the hold of that sum in a sandbox is worth. -/
noncomputable def Tryd.pinned : Pinned := { name := "ytidkekohcmejlaadoor", sum := "3a13d8bb839bf25cbb9c1998f6eeda4011c3e10d592b291c8b56c8f0c55512ea", checked := Tryd.checked }
namespace Rows
def none {H : Type} : Left H := { results := [], args := [] }

/- WHAT THE LISTED PACKAGE-LEVEL VARIABLES READ AS WHEN THE CALL BEGINS. Each datum BY PROGRAM (the guide's laid-datum.mjs) off the statement by which the dump's own 'gosem.cut.vars' lays the variable. In a bare row this is a premise. The card (YtidkekohcmejlaaDoorCards.lean) ties it to the program's text. -/
def laid_pub_mailsack_pub_kmsg_inner_kbin_ErrNotEnoughData {H : Type} : DataW H := .iface "*errors.errorString" (.ptr (.agg [.lit (.string [114, 101, 115, 112, 111, 110, 115, 101, 32, 100, 105, 100, 32, 110, 111, 116, 32, 99, 111, 110, 116, 97, 105, 110, 32, 101, 110, 111, 117, 103, 104, 32, 100, 97, 116, 97, 32, 116, 111, 32, 98, 101, 32, 118, 97, 108, 105, 100])]))

/-- 'laws.FnUnsafeShareAcknowledgeResponse': WHATEVER THE INPUT: true; the input reads as it did. -/
def fnUnsafeShareAcknowledgeResponseSpec : ChangeSpec := { name := "fnUnsafeShareAcknowledgeResponse", fn := fun _ => fun
  | [d1, d2] => { results := [.lit (.bool true)], args := [d1, d2] }
  | _ => none }
def fnUnsafeShareAcknowledgeResponseRow : OpenClaim := { program := "ytidkekohcmejlaadoor", sum := "3a13d8bb839bf25cbb9c1998f6eeda4011c3e10d592b291c8b56c8f0c55512ea", func := "pub-mailsack/laws.FnUnsafeShareAcknowledgeResponse", spec := "fnUnsafeShareAcknowledgeResponse", inPlace := ["internal/reflectlite.ValueOf", "internal/reflectlite.Swapper", "(internal/reflectlite.Value).Len"], unfollowed := true, recurses := true, named := ["encoding/binary.BigEndian", "pub-mailsack/pub/kmsg/inner/kbin.ErrNotEnoughData"], apart := false, laid := [("pub-mailsack/pub/kmsg/inner/kbin.ErrNotEnoughData", laid_pub_mailsack_pub_kmsg_inner_kbin_ErrNotEnoughData)] }
def FnUnsafeShareAcknowledgeResponseSaid : Prop := fnUnsafeShareAcknowledgeResponseRow.holds Tryd.pinned (OpenSpec.ofChange fnUnsafeShareAcknowledgeResponseSpec)

/-- ITS FALSE NEIGHBOUR: 'it returns false'. Refute it at one input. -/
def fnUnsafeShareAcknowledgeResponseWrong : ChangeSpec := { name := "fnUnsafeShareAcknowledgeResponse", fn := fun _ => fun
  | [d1, d2] => { results := [.lit (.bool false)], args := [d1, d2] }
  | _ => none }
def FnUnsafeShareAcknowledgeResponseWrongFalsely : Prop := fnUnsafeShareAcknowledgeResponseRow.holds Tryd.pinned (OpenSpec.ofChange fnUnsafeShareAcknowledgeResponseWrong)

/-- 'laws.FnUnsafeDeleteShareGroupStateResponse': WHATEVER THE INPUT: true; the input reads as it did. -/
def fnUnsafeDeleteShareGroupStateResponseSpec : ChangeSpec := { name := "fnUnsafeDeleteShareGroupStateResponse", fn := fun _ => fun
  | [d1, d2] => { results := [.lit (.bool true)], args := [d1, d2] }
  | _ => none }
def fnUnsafeDeleteShareGroupStateResponseRow : OpenClaim := { program := "ytidkekohcmejlaadoor", sum := "3a13d8bb839bf25cbb9c1998f6eeda4011c3e10d592b291c8b56c8f0c55512ea", func := "pub-mailsack/laws.FnUnsafeDeleteShareGroupStateResponse", spec := "fnUnsafeDeleteShareGroupStateResponse", inPlace := ["internal/reflectlite.ValueOf", "internal/reflectlite.Swapper", "(internal/reflectlite.Value).Len"], unfollowed := true, recurses := true, named := ["encoding/binary.BigEndian", "pub-mailsack/pub/kmsg/inner/kbin.ErrNotEnoughData"], apart := false, laid := [("pub-mailsack/pub/kmsg/inner/kbin.ErrNotEnoughData", laid_pub_mailsack_pub_kmsg_inner_kbin_ErrNotEnoughData)] }
def FnUnsafeDeleteShareGroupStateResponseSaid : Prop := fnUnsafeDeleteShareGroupStateResponseRow.holds Tryd.pinned (OpenSpec.ofChange fnUnsafeDeleteShareGroupStateResponseSpec)

/-- ITS FALSE NEIGHBOUR: 'it returns false'. Refute it at one input. -/
def fnUnsafeDeleteShareGroupStateResponseWrong : ChangeSpec := { name := "fnUnsafeDeleteShareGroupStateResponse", fn := fun _ => fun
  | [d1, d2] => { results := [.lit (.bool false)], args := [d1, d2] }
  | _ => none }
def FnUnsafeDeleteShareGroupStateResponseWrongFalsely : Prop := fnUnsafeDeleteShareGroupStateResponseRow.holds Tryd.pinned (OpenSpec.ofChange fnUnsafeDeleteShareGroupStateResponseWrong)

/-- 'laws.FnUnsafeInitProducerIDRequest': WHATEVER THE INPUT: true; the input reads as it did. -/
def fnUnsafeInitProducerIDRequestSpec : ChangeSpec := { name := "fnUnsafeInitProducerIDRequest", fn := fun _ => fun
  | [d1, d2] => { results := [.lit (.bool true)], args := [d1, d2] }
  | _ => none }
def fnUnsafeInitProducerIDRequestRow : OpenClaim := { program := "ytidkekohcmejlaadoor", sum := "3a13d8bb839bf25cbb9c1998f6eeda4011c3e10d592b291c8b56c8f0c55512ea", func := "pub-mailsack/laws.FnUnsafeInitProducerIDRequest", spec := "fnUnsafeInitProducerIDRequest", inPlace := ["internal/reflectlite.ValueOf", "internal/reflectlite.Swapper", "(internal/reflectlite.Value).Len"], unfollowed := true, recurses := true, named := ["encoding/binary.BigEndian", "pub-mailsack/pub/kmsg/inner/kbin.ErrNotEnoughData"], apart := false, laid := [("pub-mailsack/pub/kmsg/inner/kbin.ErrNotEnoughData", laid_pub_mailsack_pub_kmsg_inner_kbin_ErrNotEnoughData)] }
def FnUnsafeInitProducerIDRequestSaid : Prop := fnUnsafeInitProducerIDRequestRow.holds Tryd.pinned (OpenSpec.ofChange fnUnsafeInitProducerIDRequestSpec)

/-- ITS FALSE NEIGHBOUR: 'it returns false'. Refute it at one input. -/
def fnUnsafeInitProducerIDRequestWrong : ChangeSpec := { name := "fnUnsafeInitProducerIDRequest", fn := fun _ => fun
  | [d1, d2] => { results := [.lit (.bool false)], args := [d1, d2] }
  | _ => none }
def FnUnsafeInitProducerIDRequestWrongFalsely : Prop := fnUnsafeInitProducerIDRequestRow.holds Tryd.pinned (OpenSpec.ofChange fnUnsafeInitProducerIDRequestWrong)

/-- 'laws.FnTellHeartbeatResponse': WHATEVER THE INPUT: true; the input reads as it did. -/
def fnTellHeartbeatResponseSpec : ChangeSpec := { name := "fnTellHeartbeatResponse", fn := fun _ => fun
  | [d1, d2] => { results := [.lit (.bool true)], args := [d1, d2] }
  | _ => none }
def fnTellHeartbeatResponseRow : OpenClaim := { program := "ytidkekohcmejlaadoor", sum := "3a13d8bb839bf25cbb9c1998f6eeda4011c3e10d592b291c8b56c8f0c55512ea", func := "pub-mailsack/laws.FnTellHeartbeatResponse", spec := "fnTellHeartbeatResponse", inPlace := ["internal/reflectlite.ValueOf", "internal/reflectlite.Swapper", "(internal/reflectlite.Value).Len"], unfollowed := true, recurses := true, named := ["encoding/binary.BigEndian", "pub-mailsack/pub/kmsg/inner/kbin.ErrNotEnoughData"], loops := true, apart := false, laid := [("pub-mailsack/pub/kmsg/inner/kbin.ErrNotEnoughData", laid_pub_mailsack_pub_kmsg_inner_kbin_ErrNotEnoughData)] }
def FnTellHeartbeatResponseSaid : Prop := fnTellHeartbeatResponseRow.holds Tryd.pinned (OpenSpec.ofChange fnTellHeartbeatResponseSpec)

/-- ITS FALSE NEIGHBOUR: 'it returns false'. Refute it at one input. -/
def fnTellHeartbeatResponseWrong : ChangeSpec := { name := "fnTellHeartbeatResponse", fn := fun _ => fun
  | [d1, d2] => { results := [.lit (.bool false)], args := [d1, d2] }
  | _ => none }
def FnTellHeartbeatResponseWrongFalsely : Prop := fnTellHeartbeatResponseRow.holds Tryd.pinned (OpenSpec.ofChange fnTellHeartbeatResponseWrong)

/-- 'laws.FnTellUnregisterControllerRequest': WHATEVER THE INPUT: true; the input reads as it did. -/
def fnTellUnregisterControllerRequestSpec : ChangeSpec := { name := "fnTellUnregisterControllerRequest", fn := fun _ => fun
  | [d1, d2] => { results := [.lit (.bool true)], args := [d1, d2] }
  | _ => none }
def fnTellUnregisterControllerRequestRow : OpenClaim := { program := "ytidkekohcmejlaadoor", sum := "3a13d8bb839bf25cbb9c1998f6eeda4011c3e10d592b291c8b56c8f0c55512ea", func := "pub-mailsack/laws.FnTellUnregisterControllerRequest", spec := "fnTellUnregisterControllerRequest", inPlace := ["internal/reflectlite.ValueOf", "internal/reflectlite.Swapper", "(internal/reflectlite.Value).Len"], unfollowed := true, recurses := true, named := ["encoding/binary.BigEndian", "pub-mailsack/pub/kmsg/inner/kbin.ErrNotEnoughData"], loops := true, apart := false, laid := [("pub-mailsack/pub/kmsg/inner/kbin.ErrNotEnoughData", laid_pub_mailsack_pub_kmsg_inner_kbin_ErrNotEnoughData)] }
def FnTellUnregisterControllerRequestSaid : Prop := fnTellUnregisterControllerRequestRow.holds Tryd.pinned (OpenSpec.ofChange fnTellUnregisterControllerRequestSpec)

/-- ITS FALSE NEIGHBOUR: 'it returns false'. Refute it at one input. -/
def fnTellUnregisterControllerRequestWrong : ChangeSpec := { name := "fnTellUnregisterControllerRequest", fn := fun _ => fun
  | [d1, d2] => { results := [.lit (.bool false)], args := [d1, d2] }
  | _ => none }
def FnTellUnregisterControllerRequestWrongFalsely : Prop := fnTellUnregisterControllerRequestRow.holds Tryd.pinned (OpenSpec.ofChange fnTellUnregisterControllerRequestWrong)

/-- 'laws.FnTellEnvelopeResponse': WHATEVER THE INPUT: true; the input reads as it did. -/
def fnTellEnvelopeResponseSpec : ChangeSpec := { name := "fnTellEnvelopeResponse", fn := fun _ => fun
  | [d1, d2] => { results := [.lit (.bool true)], args := [d1, d2] }
  | _ => none }
def fnTellEnvelopeResponseRow : OpenClaim := { program := "ytidkekohcmejlaadoor", sum := "3a13d8bb839bf25cbb9c1998f6eeda4011c3e10d592b291c8b56c8f0c55512ea", func := "pub-mailsack/laws.FnTellEnvelopeResponse", spec := "fnTellEnvelopeResponse", inPlace := ["internal/reflectlite.ValueOf", "internal/reflectlite.Swapper", "(internal/reflectlite.Value).Len"], unfollowed := true, recurses := true, named := ["encoding/binary.BigEndian", "pub-mailsack/pub/kmsg/inner/kbin.ErrNotEnoughData"], loops := true, apart := false, laid := [("pub-mailsack/pub/kmsg/inner/kbin.ErrNotEnoughData", laid_pub_mailsack_pub_kmsg_inner_kbin_ErrNotEnoughData)] }
def FnTellEnvelopeResponseSaid : Prop := fnTellEnvelopeResponseRow.holds Tryd.pinned (OpenSpec.ofChange fnTellEnvelopeResponseSpec)

/-- ITS FALSE NEIGHBOUR: 'it returns false'. Refute it at one input. -/
def fnTellEnvelopeResponseWrong : ChangeSpec := { name := "fnTellEnvelopeResponse", fn := fun _ => fun
  | [d1, d2] => { results := [.lit (.bool false)], args := [d1, d2] }
  | _ => none }
def FnTellEnvelopeResponseWrongFalsely : Prop := fnTellEnvelopeResponseRow.holds Tryd.pinned (OpenSpec.ofChange fnTellEnvelopeResponseWrong)

/-- 'laws.FnTellAddRaftVoterResponse': WHATEVER THE INPUT: true; the input reads as it did. -/
def fnTellAddRaftVoterResponseSpec : ChangeSpec := { name := "fnTellAddRaftVoterResponse", fn := fun _ => fun
  | [d1, d2] => { results := [.lit (.bool true)], args := [d1, d2] }
  | _ => none }
def fnTellAddRaftVoterResponseRow : OpenClaim := { program := "ytidkekohcmejlaadoor", sum := "3a13d8bb839bf25cbb9c1998f6eeda4011c3e10d592b291c8b56c8f0c55512ea", func := "pub-mailsack/laws.FnTellAddRaftVoterResponse", spec := "fnTellAddRaftVoterResponse", inPlace := ["internal/reflectlite.ValueOf", "internal/reflectlite.Swapper", "(internal/reflectlite.Value).Len"], unfollowed := true, recurses := true, named := ["encoding/binary.BigEndian", "pub-mailsack/pub/kmsg/inner/kbin.ErrNotEnoughData"], loops := true, apart := false, laid := [("pub-mailsack/pub/kmsg/inner/kbin.ErrNotEnoughData", laid_pub_mailsack_pub_kmsg_inner_kbin_ErrNotEnoughData)] }
def FnTellAddRaftVoterResponseSaid : Prop := fnTellAddRaftVoterResponseRow.holds Tryd.pinned (OpenSpec.ofChange fnTellAddRaftVoterResponseSpec)

/-- ITS FALSE NEIGHBOUR: 'it returns false'. Refute it at one input. -/
def fnTellAddRaftVoterResponseWrong : ChangeSpec := { name := "fnTellAddRaftVoterResponse", fn := fun _ => fun
  | [d1, d2] => { results := [.lit (.bool false)], args := [d1, d2] }
  | _ => none }
def FnTellAddRaftVoterResponseWrongFalsely : Prop := fnTellAddRaftVoterResponseRow.holds Tryd.pinned (OpenSpec.ofChange fnTellAddRaftVoterResponseWrong)

/- THE SECOND FORM. 'bulk': how many values and letters a reading holds, each counted each time it is reached (what is shared counts as often as it is met; a slice's spare places count too). A statement '..UptoSaid' is the law's where the arguments, and the package variables that the reading takes, are together of bulk at most 1048576: NARROWER than '..Said'. Prove '..Said' where nothing that the law and all that it calls make is longer than what came in: it says more and counts as full. Else prove '..UptoSaid'. A law counts once. -/
mutual
def uptoBulk {H : Type} : DataW H → Nat
  | .lit (.string bytes) => bytes.length + 1
  | .lit _ => 1
  | .nil => 1
  | .ptr d => uptoBulk d + 1
  | .slice elems spare => uptoBulkAll elems + uptoBulkAll spare + 1
  | .agg parts => uptoBulkAll parts + 1
  | .iface _ d => uptoBulk d + 1
  | .map entries => uptoBulkEntries entries + 1
  | .held _ => 1
def uptoBulkAll {H : Type} : List (DataW H) → Nat
  | [] => 0
  | d :: r => uptoBulk d + uptoBulkAll r
def uptoBulkEntries {H : Type} : List (Lit × DataW H) → Nat
  | [] => 0
  | x :: r => uptoBulkEntry x + uptoBulkEntries r
def uptoBulkEntry {H : Type} : Lit × DataW H → Nat
  | (.string bytes, d) => bytes.length + uptoBulk d + 1
  | (_, d) => uptoBulk d + 1
 end
def uptoSmall : (H : Type) → List (DataW H) → Bool := fun _ ds => decide (uptoBulkAll ds ≤ 1048576)
def OpenSpec.upto (s : _root_.Go.ChangeSpec) : _root_.Go.OpenSpec := { _root_.Go.OpenSpec.ofChange s with cond := some uptoSmall }

/-- 'laws.FnUnsafeShareAcknowledgeResponse', WHERE WHAT IT READS IS OF BULK AT MOST 1048576: true; the input reads as it did. -/
def fnUnsafeShareAcknowledgeResponseUptoRow : OpenClaim := { program := "ytidkekohcmejlaadoor", sum := "3a13d8bb839bf25cbb9c1998f6eeda4011c3e10d592b291c8b56c8f0c55512ea", func := "pub-mailsack/laws.FnUnsafeShareAcknowledgeResponse", spec := "fnUnsafeShareAcknowledgeResponse", inPlace := ["internal/reflectlite.ValueOf", "internal/reflectlite.Swapper", "(internal/reflectlite.Value).Len"], unfollowed := true, recurses := true, named := ["encoding/binary.BigEndian", "pub-mailsack/pub/kmsg/inner/kbin.ErrNotEnoughData"], apart := false, laid := [("pub-mailsack/pub/kmsg/inner/kbin.ErrNotEnoughData", laid_pub_mailsack_pub_kmsg_inner_kbin_ErrNotEnoughData)], narrowed := true }
def FnUnsafeShareAcknowledgeResponseUptoSaid : Prop := fnUnsafeShareAcknowledgeResponseUptoRow.holds Tryd.pinned (OpenSpec.upto fnUnsafeShareAcknowledgeResponseSpec)

/-- 'laws.FnUnsafeDeleteShareGroupStateResponse', WHERE WHAT IT READS IS OF BULK AT MOST 1048576: true; the input reads as it did. -/
def fnUnsafeDeleteShareGroupStateResponseUptoRow : OpenClaim := { program := "ytidkekohcmejlaadoor", sum := "3a13d8bb839bf25cbb9c1998f6eeda4011c3e10d592b291c8b56c8f0c55512ea", func := "pub-mailsack/laws.FnUnsafeDeleteShareGroupStateResponse", spec := "fnUnsafeDeleteShareGroupStateResponse", inPlace := ["internal/reflectlite.ValueOf", "internal/reflectlite.Swapper", "(internal/reflectlite.Value).Len"], unfollowed := true, recurses := true, named := ["encoding/binary.BigEndian", "pub-mailsack/pub/kmsg/inner/kbin.ErrNotEnoughData"], apart := false, laid := [("pub-mailsack/pub/kmsg/inner/kbin.ErrNotEnoughData", laid_pub_mailsack_pub_kmsg_inner_kbin_ErrNotEnoughData)], narrowed := true }
def FnUnsafeDeleteShareGroupStateResponseUptoSaid : Prop := fnUnsafeDeleteShareGroupStateResponseUptoRow.holds Tryd.pinned (OpenSpec.upto fnUnsafeDeleteShareGroupStateResponseSpec)

/-- 'laws.FnUnsafeInitProducerIDRequest', WHERE WHAT IT READS IS OF BULK AT MOST 1048576: true; the input reads as it did. -/
def fnUnsafeInitProducerIDRequestUptoRow : OpenClaim := { program := "ytidkekohcmejlaadoor", sum := "3a13d8bb839bf25cbb9c1998f6eeda4011c3e10d592b291c8b56c8f0c55512ea", func := "pub-mailsack/laws.FnUnsafeInitProducerIDRequest", spec := "fnUnsafeInitProducerIDRequest", inPlace := ["internal/reflectlite.ValueOf", "internal/reflectlite.Swapper", "(internal/reflectlite.Value).Len"], unfollowed := true, recurses := true, named := ["encoding/binary.BigEndian", "pub-mailsack/pub/kmsg/inner/kbin.ErrNotEnoughData"], apart := false, laid := [("pub-mailsack/pub/kmsg/inner/kbin.ErrNotEnoughData", laid_pub_mailsack_pub_kmsg_inner_kbin_ErrNotEnoughData)], narrowed := true }
def FnUnsafeInitProducerIDRequestUptoSaid : Prop := fnUnsafeInitProducerIDRequestUptoRow.holds Tryd.pinned (OpenSpec.upto fnUnsafeInitProducerIDRequestSpec)

/-- 'laws.FnTellHeartbeatResponse', WHERE WHAT IT READS IS OF BULK AT MOST 1048576: true; the input reads as it did. -/
def fnTellHeartbeatResponseUptoRow : OpenClaim := { program := "ytidkekohcmejlaadoor", sum := "3a13d8bb839bf25cbb9c1998f6eeda4011c3e10d592b291c8b56c8f0c55512ea", func := "pub-mailsack/laws.FnTellHeartbeatResponse", spec := "fnTellHeartbeatResponse", inPlace := ["internal/reflectlite.ValueOf", "internal/reflectlite.Swapper", "(internal/reflectlite.Value).Len"], unfollowed := true, recurses := true, named := ["encoding/binary.BigEndian", "pub-mailsack/pub/kmsg/inner/kbin.ErrNotEnoughData"], loops := true, apart := false, laid := [("pub-mailsack/pub/kmsg/inner/kbin.ErrNotEnoughData", laid_pub_mailsack_pub_kmsg_inner_kbin_ErrNotEnoughData)], narrowed := true }
def FnTellHeartbeatResponseUptoSaid : Prop := fnTellHeartbeatResponseUptoRow.holds Tryd.pinned (OpenSpec.upto fnTellHeartbeatResponseSpec)

/-- 'laws.FnTellUnregisterControllerRequest', WHERE WHAT IT READS IS OF BULK AT MOST 1048576: true; the input reads as it did. -/
def fnTellUnregisterControllerRequestUptoRow : OpenClaim := { program := "ytidkekohcmejlaadoor", sum := "3a13d8bb839bf25cbb9c1998f6eeda4011c3e10d592b291c8b56c8f0c55512ea", func := "pub-mailsack/laws.FnTellUnregisterControllerRequest", spec := "fnTellUnregisterControllerRequest", inPlace := ["internal/reflectlite.ValueOf", "internal/reflectlite.Swapper", "(internal/reflectlite.Value).Len"], unfollowed := true, recurses := true, named := ["encoding/binary.BigEndian", "pub-mailsack/pub/kmsg/inner/kbin.ErrNotEnoughData"], loops := true, apart := false, laid := [("pub-mailsack/pub/kmsg/inner/kbin.ErrNotEnoughData", laid_pub_mailsack_pub_kmsg_inner_kbin_ErrNotEnoughData)], narrowed := true }
def FnTellUnregisterControllerRequestUptoSaid : Prop := fnTellUnregisterControllerRequestUptoRow.holds Tryd.pinned (OpenSpec.upto fnTellUnregisterControllerRequestSpec)

/-- 'laws.FnTellEnvelopeResponse', WHERE WHAT IT READS IS OF BULK AT MOST 1048576: true; the input reads as it did. -/
def fnTellEnvelopeResponseUptoRow : OpenClaim := { program := "ytidkekohcmejlaadoor", sum := "3a13d8bb839bf25cbb9c1998f6eeda4011c3e10d592b291c8b56c8f0c55512ea", func := "pub-mailsack/laws.FnTellEnvelopeResponse", spec := "fnTellEnvelopeResponse", inPlace := ["internal/reflectlite.ValueOf", "internal/reflectlite.Swapper", "(internal/reflectlite.Value).Len"], unfollowed := true, recurses := true, named := ["encoding/binary.BigEndian", "pub-mailsack/pub/kmsg/inner/kbin.ErrNotEnoughData"], loops := true, apart := false, laid := [("pub-mailsack/pub/kmsg/inner/kbin.ErrNotEnoughData", laid_pub_mailsack_pub_kmsg_inner_kbin_ErrNotEnoughData)], narrowed := true }
def FnTellEnvelopeResponseUptoSaid : Prop := fnTellEnvelopeResponseUptoRow.holds Tryd.pinned (OpenSpec.upto fnTellEnvelopeResponseSpec)

/-- 'laws.FnTellAddRaftVoterResponse', WHERE WHAT IT READS IS OF BULK AT MOST 1048576: true; the input reads as it did. -/
def fnTellAddRaftVoterResponseUptoRow : OpenClaim := { program := "ytidkekohcmejlaadoor", sum := "3a13d8bb839bf25cbb9c1998f6eeda4011c3e10d592b291c8b56c8f0c55512ea", func := "pub-mailsack/laws.FnTellAddRaftVoterResponse", spec := "fnTellAddRaftVoterResponse", inPlace := ["internal/reflectlite.ValueOf", "internal/reflectlite.Swapper", "(internal/reflectlite.Value).Len"], unfollowed := true, recurses := true, named := ["encoding/binary.BigEndian", "pub-mailsack/pub/kmsg/inner/kbin.ErrNotEnoughData"], loops := true, apart := false, laid := [("pub-mailsack/pub/kmsg/inner/kbin.ErrNotEnoughData", laid_pub_mailsack_pub_kmsg_inner_kbin_ErrNotEnoughData)], narrowed := true }
def FnTellAddRaftVoterResponseUptoSaid : Prop := fnTellAddRaftVoterResponseUptoRow.holds Tryd.pinned (OpenSpec.upto fnTellAddRaftVoterResponseSpec)

end Rows
end Go.Proofs.YtidkekohcmejlaaDoor
