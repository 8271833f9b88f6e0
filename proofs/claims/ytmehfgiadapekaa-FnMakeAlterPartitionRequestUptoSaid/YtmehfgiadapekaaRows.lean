/-
  NARROWER THAN 'FOR EVERY INPUT', by the rows' own cells (each row's printed sentence says how): FnMakeOffsetForLeaderEpochResponse: loops · FnMakeOffsetCommitResponse: loops · FnMakeInitializeShareGroupStateResponse: loops · FnMakeUpdateRaftVoterRequest: loops · FnMakeTxnOffsetCommitResponse: loops · FnMakeDescribeConfigsRequest: loops · FnMakeAlterUserSCRAMCredentialsRequest: loops · FnMakeWriteTxnMarkersRequest: loops · FnMakeDescribeDelegationTokenResponse: loops · FnMakeAlterPartitionRequest: loops · FnMakeOffsetCommitValue: loops.
  DERIVED. THE GIVEN ROWS OF THIS SEAT. 11 by the template 'for every input the law returns true; each argument reads behind the call as it read before'; 0 by the template 'total and deterministic' (their statements: YtmehfgiadapekaaTotals.lean).
  GIVEN WITH THE SEED: the statements are not yours to turn. If you find one false, say at which input.
  Laid BY PROGRAM, IN A SANDBOX (cutbox-rows.mjs): the forced cells as the released guide's own fill.sh prints them over the translation 03617fd696cf33f8… (all of the seat's roots in one cut). By AI agents, Wed Nov 11 2026. No macro, syntax, notation, axiom, sorry.
-/
import Derived.Test.YtmehfgiadapekaaChecked
import GoSem.Claim
import GoSem.ClaimJoined
import GoSem.ClaimMapViews
import Derived.JoinedTies
import Derived.KernelRfl
namespace Go.Proofs.Ytmehfgiadapekaa
/- THE CELL 'sum', in the pinned program and in every row, IS THE sha256 OF THE DUMP (.gsa) THAT YtmehfgiadapekaaProg.lean LOADS. Nothing in Lean hashes anything: it is a label: what it is worth is what the hold of that sum in a sandbox is worth. -/
noncomputable def Try.pinned : Pinned := { name := "ytmehfgiadapekaa", sum := "03617fd696cf33f8cbcc514120657e2576a9a0a57668c6a6708ccdc78bf2f35a", checked := Try.checked }
namespace Rows
def none {H : Type} : Left H := { results := [], args := [] }

/-- 'laws.FnMakeOffsetForLeaderEpochResponse': WHATEVER THE INPUT: true; the input reads as it did. -/
def fnMakeOffsetForLeaderEpochResponseSpec : ChangeSpec := { name := "fnMakeOffsetForLeaderEpochResponse", fn := fun _ => fun
  | [d1, d2] => { results := [.lit (.bool true)], args := [d1, d2] }
  | _ => none }
def fnMakeOffsetForLeaderEpochResponseRow : OpenClaim := { program := "ytmehfgiadapekaa", sum := "03617fd696cf33f8cbcc514120657e2576a9a0a57668c6a6708ccdc78bf2f35a", func := "pub-mailsack/laws.FnMakeOffsetForLeaderEpochResponse", spec := "fnMakeOffsetForLeaderEpochResponse", inPlace := ["internal/reflectlite.ValueOf", "internal/reflectlite.Swapper", "(internal/reflectlite.Value).Len"], unfollowed := true, recurses := true, loops := true, apart := false }
def FnMakeOffsetForLeaderEpochResponseSaid : Prop := fnMakeOffsetForLeaderEpochResponseRow.holds Try.pinned (OpenSpec.ofChange fnMakeOffsetForLeaderEpochResponseSpec)

/-- ITS FALSE NEIGHBOUR: 'it returns false'. Refute it at one input. -/
def fnMakeOffsetForLeaderEpochResponseWrong : ChangeSpec := { name := "fnMakeOffsetForLeaderEpochResponse", fn := fun _ => fun
  | [d1, d2] => { results := [.lit (.bool false)], args := [d1, d2] }
  | _ => none }
def FnMakeOffsetForLeaderEpochResponseWrongFalsely : Prop := fnMakeOffsetForLeaderEpochResponseRow.holds Try.pinned (OpenSpec.ofChange fnMakeOffsetForLeaderEpochResponseWrong)

/-- 'laws.FnMakeOffsetCommitResponse': WHATEVER THE INPUT: true; the input reads as it did. -/
def fnMakeOffsetCommitResponseSpec : ChangeSpec := { name := "fnMakeOffsetCommitResponse", fn := fun _ => fun
  | [d1, d2] => { results := [.lit (.bool true)], args := [d1, d2] }
  | _ => none }
def fnMakeOffsetCommitResponseRow : OpenClaim := { program := "ytmehfgiadapekaa", sum := "03617fd696cf33f8cbcc514120657e2576a9a0a57668c6a6708ccdc78bf2f35a", func := "pub-mailsack/laws.FnMakeOffsetCommitResponse", spec := "fnMakeOffsetCommitResponse", inPlace := ["internal/reflectlite.ValueOf", "internal/reflectlite.Swapper", "(internal/reflectlite.Value).Len"], unfollowed := true, recurses := true, loops := true, apart := false }
def FnMakeOffsetCommitResponseSaid : Prop := fnMakeOffsetCommitResponseRow.holds Try.pinned (OpenSpec.ofChange fnMakeOffsetCommitResponseSpec)

/-- ITS FALSE NEIGHBOUR: 'it returns false'. Refute it at one input. -/
def fnMakeOffsetCommitResponseWrong : ChangeSpec := { name := "fnMakeOffsetCommitResponse", fn := fun _ => fun
  | [d1, d2] => { results := [.lit (.bool false)], args := [d1, d2] }
  | _ => none }
def FnMakeOffsetCommitResponseWrongFalsely : Prop := fnMakeOffsetCommitResponseRow.holds Try.pinned (OpenSpec.ofChange fnMakeOffsetCommitResponseWrong)

/-- 'laws.FnMakeInitializeShareGroupStateResponse': WHATEVER THE INPUT: true; the input reads as it did. -/
def fnMakeInitializeShareGroupStateResponseSpec : ChangeSpec := { name := "fnMakeInitializeShareGroupStateResponse", fn := fun _ => fun
  | [d1, d2] => { results := [.lit (.bool true)], args := [d1, d2] }
  | _ => none }
def fnMakeInitializeShareGroupStateResponseRow : OpenClaim := { program := "ytmehfgiadapekaa", sum := "03617fd696cf33f8cbcc514120657e2576a9a0a57668c6a6708ccdc78bf2f35a", func := "pub-mailsack/laws.FnMakeInitializeShareGroupStateResponse", spec := "fnMakeInitializeShareGroupStateResponse", inPlace := ["internal/reflectlite.ValueOf", "internal/reflectlite.Swapper", "(internal/reflectlite.Value).Len"], unfollowed := true, recurses := true, loops := true, apart := false }
def FnMakeInitializeShareGroupStateResponseSaid : Prop := fnMakeInitializeShareGroupStateResponseRow.holds Try.pinned (OpenSpec.ofChange fnMakeInitializeShareGroupStateResponseSpec)

/-- ITS FALSE NEIGHBOUR: 'it returns false'. Refute it at one input. -/
def fnMakeInitializeShareGroupStateResponseWrong : ChangeSpec := { name := "fnMakeInitializeShareGroupStateResponse", fn := fun _ => fun
  | [d1, d2] => { results := [.lit (.bool false)], args := [d1, d2] }
  | _ => none }
def FnMakeInitializeShareGroupStateResponseWrongFalsely : Prop := fnMakeInitializeShareGroupStateResponseRow.holds Try.pinned (OpenSpec.ofChange fnMakeInitializeShareGroupStateResponseWrong)

/-- 'laws.FnMakeUpdateRaftVoterRequest': WHATEVER THE INPUT: true; the input reads as it did. -/
def fnMakeUpdateRaftVoterRequestSpec : ChangeSpec := { name := "fnMakeUpdateRaftVoterRequest", fn := fun _ => fun
  | [d1, d2] => { results := [.lit (.bool true)], args := [d1, d2] }
  | _ => none }
def fnMakeUpdateRaftVoterRequestRow : OpenClaim := { program := "ytmehfgiadapekaa", sum := "03617fd696cf33f8cbcc514120657e2576a9a0a57668c6a6708ccdc78bf2f35a", func := "pub-mailsack/laws.FnMakeUpdateRaftVoterRequest", spec := "fnMakeUpdateRaftVoterRequest", inPlace := ["internal/reflectlite.ValueOf", "internal/reflectlite.Swapper", "(internal/reflectlite.Value).Len"], unfollowed := true, recurses := true, loops := true, apart := false }
def FnMakeUpdateRaftVoterRequestSaid : Prop := fnMakeUpdateRaftVoterRequestRow.holds Try.pinned (OpenSpec.ofChange fnMakeUpdateRaftVoterRequestSpec)

/-- ITS FALSE NEIGHBOUR: 'it returns false'. Refute it at one input. -/
def fnMakeUpdateRaftVoterRequestWrong : ChangeSpec := { name := "fnMakeUpdateRaftVoterRequest", fn := fun _ => fun
  | [d1, d2] => { results := [.lit (.bool false)], args := [d1, d2] }
  | _ => none }
def FnMakeUpdateRaftVoterRequestWrongFalsely : Prop := fnMakeUpdateRaftVoterRequestRow.holds Try.pinned (OpenSpec.ofChange fnMakeUpdateRaftVoterRequestWrong)

/-- 'laws.FnMakeTxnOffsetCommitResponse': WHATEVER THE INPUT: true; the input reads as it did. -/
def fnMakeTxnOffsetCommitResponseSpec : ChangeSpec := { name := "fnMakeTxnOffsetCommitResponse", fn := fun _ => fun
  | [d1, d2] => { results := [.lit (.bool true)], args := [d1, d2] }
  | _ => none }
def fnMakeTxnOffsetCommitResponseRow : OpenClaim := { program := "ytmehfgiadapekaa", sum := "03617fd696cf33f8cbcc514120657e2576a9a0a57668c6a6708ccdc78bf2f35a", func := "pub-mailsack/laws.FnMakeTxnOffsetCommitResponse", spec := "fnMakeTxnOffsetCommitResponse", inPlace := ["internal/reflectlite.ValueOf", "internal/reflectlite.Swapper", "(internal/reflectlite.Value).Len"], unfollowed := true, recurses := true, loops := true, apart := false }
def FnMakeTxnOffsetCommitResponseSaid : Prop := fnMakeTxnOffsetCommitResponseRow.holds Try.pinned (OpenSpec.ofChange fnMakeTxnOffsetCommitResponseSpec)

/-- ITS FALSE NEIGHBOUR: 'it returns false'. Refute it at one input. -/
def fnMakeTxnOffsetCommitResponseWrong : ChangeSpec := { name := "fnMakeTxnOffsetCommitResponse", fn := fun _ => fun
  | [d1, d2] => { results := [.lit (.bool false)], args := [d1, d2] }
  | _ => none }
def FnMakeTxnOffsetCommitResponseWrongFalsely : Prop := fnMakeTxnOffsetCommitResponseRow.holds Try.pinned (OpenSpec.ofChange fnMakeTxnOffsetCommitResponseWrong)

/-- 'laws.FnMakeDescribeConfigsRequest': WHATEVER THE INPUT: true; the input reads as it did. -/
def fnMakeDescribeConfigsRequestSpec : ChangeSpec := { name := "fnMakeDescribeConfigsRequest", fn := fun _ => fun
  | [d1, d2] => { results := [.lit (.bool true)], args := [d1, d2] }
  | _ => none }
def fnMakeDescribeConfigsRequestRow : OpenClaim := { program := "ytmehfgiadapekaa", sum := "03617fd696cf33f8cbcc514120657e2576a9a0a57668c6a6708ccdc78bf2f35a", func := "pub-mailsack/laws.FnMakeDescribeConfigsRequest", spec := "fnMakeDescribeConfigsRequest", inPlace := ["internal/reflectlite.ValueOf", "internal/reflectlite.Swapper", "(internal/reflectlite.Value).Len"], unfollowed := true, recurses := true, loops := true, apart := false }
def FnMakeDescribeConfigsRequestSaid : Prop := fnMakeDescribeConfigsRequestRow.holds Try.pinned (OpenSpec.ofChange fnMakeDescribeConfigsRequestSpec)

/-- ITS FALSE NEIGHBOUR: 'it returns false'. Refute it at one input. -/
def fnMakeDescribeConfigsRequestWrong : ChangeSpec := { name := "fnMakeDescribeConfigsRequest", fn := fun _ => fun
  | [d1, d2] => { results := [.lit (.bool false)], args := [d1, d2] }
  | _ => none }
def FnMakeDescribeConfigsRequestWrongFalsely : Prop := fnMakeDescribeConfigsRequestRow.holds Try.pinned (OpenSpec.ofChange fnMakeDescribeConfigsRequestWrong)

/-- 'laws.FnMakeAlterUserSCRAMCredentialsRequest': WHATEVER THE INPUT: true; the input reads as it did. -/
def fnMakeAlterUserSCRAMCredentialsRequestSpec : ChangeSpec := { name := "fnMakeAlterUserSCRAMCredentialsRequest", fn := fun _ => fun
  | [d1, d2] => { results := [.lit (.bool true)], args := [d1, d2] }
  | _ => none }
def fnMakeAlterUserSCRAMCredentialsRequestRow : OpenClaim := { program := "ytmehfgiadapekaa", sum := "03617fd696cf33f8cbcc514120657e2576a9a0a57668c6a6708ccdc78bf2f35a", func := "pub-mailsack/laws.FnMakeAlterUserSCRAMCredentialsRequest", spec := "fnMakeAlterUserSCRAMCredentialsRequest", inPlace := ["internal/reflectlite.ValueOf", "internal/reflectlite.Swapper", "(internal/reflectlite.Value).Len"], unfollowed := true, recurses := true, loops := true, apart := false }
def FnMakeAlterUserSCRAMCredentialsRequestSaid : Prop := fnMakeAlterUserSCRAMCredentialsRequestRow.holds Try.pinned (OpenSpec.ofChange fnMakeAlterUserSCRAMCredentialsRequestSpec)

/-- ITS FALSE NEIGHBOUR: 'it returns false'. Refute it at one input. -/
def fnMakeAlterUserSCRAMCredentialsRequestWrong : ChangeSpec := { name := "fnMakeAlterUserSCRAMCredentialsRequest", fn := fun _ => fun
  | [d1, d2] => { results := [.lit (.bool false)], args := [d1, d2] }
  | _ => none }
def FnMakeAlterUserSCRAMCredentialsRequestWrongFalsely : Prop := fnMakeAlterUserSCRAMCredentialsRequestRow.holds Try.pinned (OpenSpec.ofChange fnMakeAlterUserSCRAMCredentialsRequestWrong)

/-- 'laws.FnMakeWriteTxnMarkersRequest': WHATEVER THE INPUT: true; the input reads as it did. -/
def fnMakeWriteTxnMarkersRequestSpec : ChangeSpec := { name := "fnMakeWriteTxnMarkersRequest", fn := fun _ => fun
  | [d1, d2] => { results := [.lit (.bool true)], args := [d1, d2] }
  | _ => none }
def fnMakeWriteTxnMarkersRequestRow : OpenClaim := { program := "ytmehfgiadapekaa", sum := "03617fd696cf33f8cbcc514120657e2576a9a0a57668c6a6708ccdc78bf2f35a", func := "pub-mailsack/laws.FnMakeWriteTxnMarkersRequest", spec := "fnMakeWriteTxnMarkersRequest", inPlace := ["internal/reflectlite.ValueOf", "internal/reflectlite.Swapper", "(internal/reflectlite.Value).Len"], unfollowed := true, recurses := true, loops := true, apart := false }
def FnMakeWriteTxnMarkersRequestSaid : Prop := fnMakeWriteTxnMarkersRequestRow.holds Try.pinned (OpenSpec.ofChange fnMakeWriteTxnMarkersRequestSpec)

/-- ITS FALSE NEIGHBOUR: 'it returns false'. Refute it at one input. -/
def fnMakeWriteTxnMarkersRequestWrong : ChangeSpec := { name := "fnMakeWriteTxnMarkersRequest", fn := fun _ => fun
  | [d1, d2] => { results := [.lit (.bool false)], args := [d1, d2] }
  | _ => none }
def FnMakeWriteTxnMarkersRequestWrongFalsely : Prop := fnMakeWriteTxnMarkersRequestRow.holds Try.pinned (OpenSpec.ofChange fnMakeWriteTxnMarkersRequestWrong)

/-- 'laws.FnMakeDescribeDelegationTokenResponse': WHATEVER THE INPUT: true; the input reads as it did. -/
def fnMakeDescribeDelegationTokenResponseSpec : ChangeSpec := { name := "fnMakeDescribeDelegationTokenResponse", fn := fun _ => fun
  | [d1, d2] => { results := [.lit (.bool true)], args := [d1, d2] }
  | _ => none }
def fnMakeDescribeDelegationTokenResponseRow : OpenClaim := { program := "ytmehfgiadapekaa", sum := "03617fd696cf33f8cbcc514120657e2576a9a0a57668c6a6708ccdc78bf2f35a", func := "pub-mailsack/laws.FnMakeDescribeDelegationTokenResponse", spec := "fnMakeDescribeDelegationTokenResponse", inPlace := ["internal/reflectlite.ValueOf", "internal/reflectlite.Swapper", "(internal/reflectlite.Value).Len"], unfollowed := true, recurses := true, loops := true, apart := false }
def FnMakeDescribeDelegationTokenResponseSaid : Prop := fnMakeDescribeDelegationTokenResponseRow.holds Try.pinned (OpenSpec.ofChange fnMakeDescribeDelegationTokenResponseSpec)

/-- ITS FALSE NEIGHBOUR: 'it returns false'. Refute it at one input. -/
def fnMakeDescribeDelegationTokenResponseWrong : ChangeSpec := { name := "fnMakeDescribeDelegationTokenResponse", fn := fun _ => fun
  | [d1, d2] => { results := [.lit (.bool false)], args := [d1, d2] }
  | _ => none }
def FnMakeDescribeDelegationTokenResponseWrongFalsely : Prop := fnMakeDescribeDelegationTokenResponseRow.holds Try.pinned (OpenSpec.ofChange fnMakeDescribeDelegationTokenResponseWrong)

/-- 'laws.FnMakeAlterPartitionRequest': WHATEVER THE INPUT: true; the input reads as it did. -/
def fnMakeAlterPartitionRequestSpec : ChangeSpec := { name := "fnMakeAlterPartitionRequest", fn := fun _ => fun
  | [d1, d2] => { results := [.lit (.bool true)], args := [d1, d2] }
  | _ => none }
def fnMakeAlterPartitionRequestRow : OpenClaim := { program := "ytmehfgiadapekaa", sum := "03617fd696cf33f8cbcc514120657e2576a9a0a57668c6a6708ccdc78bf2f35a", func := "pub-mailsack/laws.FnMakeAlterPartitionRequest", spec := "fnMakeAlterPartitionRequest", inPlace := ["internal/reflectlite.ValueOf", "internal/reflectlite.Swapper", "(internal/reflectlite.Value).Len"], unfollowed := true, recurses := true, loops := true, apart := false }
def FnMakeAlterPartitionRequestSaid : Prop := fnMakeAlterPartitionRequestRow.holds Try.pinned (OpenSpec.ofChange fnMakeAlterPartitionRequestSpec)

/-- ITS FALSE NEIGHBOUR: 'it returns false'. Refute it at one input. -/
def fnMakeAlterPartitionRequestWrong : ChangeSpec := { name := "fnMakeAlterPartitionRequest", fn := fun _ => fun
  | [d1, d2] => { results := [.lit (.bool false)], args := [d1, d2] }
  | _ => none }
def FnMakeAlterPartitionRequestWrongFalsely : Prop := fnMakeAlterPartitionRequestRow.holds Try.pinned (OpenSpec.ofChange fnMakeAlterPartitionRequestWrong)

/-- 'laws.FnMakeOffsetCommitValue': WHATEVER THE INPUT: true; the input reads as it did. -/
def fnMakeOffsetCommitValueSpec : ChangeSpec := { name := "fnMakeOffsetCommitValue", fn := fun _ => fun
  | [d1, d2] => { results := [.lit (.bool true)], args := [d1, d2] }
  | _ => none }
def fnMakeOffsetCommitValueRow : OpenClaim := { program := "ytmehfgiadapekaa", sum := "03617fd696cf33f8cbcc514120657e2576a9a0a57668c6a6708ccdc78bf2f35a", func := "pub-mailsack/laws.FnMakeOffsetCommitValue", spec := "fnMakeOffsetCommitValue", inPlace := ["internal/reflectlite.ValueOf", "internal/reflectlite.Swapper", "(internal/reflectlite.Value).Len"], unfollowed := true, recurses := true, loops := true, apart := false }
def FnMakeOffsetCommitValueSaid : Prop := fnMakeOffsetCommitValueRow.holds Try.pinned (OpenSpec.ofChange fnMakeOffsetCommitValueSpec)

/-- ITS FALSE NEIGHBOUR: 'it returns false'. Refute it at one input. -/
def fnMakeOffsetCommitValueWrong : ChangeSpec := { name := "fnMakeOffsetCommitValue", fn := fun _ => fun
  | [d1, d2] => { results := [.lit (.bool false)], args := [d1, d2] }
  | _ => none }
def FnMakeOffsetCommitValueWrongFalsely : Prop := fnMakeOffsetCommitValueRow.holds Try.pinned (OpenSpec.ofChange fnMakeOffsetCommitValueWrong)

/- THE SECOND FORM. 'bulk': how many values and letters a reading holds, each counted each time it is reached (what is shared counts as often as it is met; a slice's spare places count too). A statement '..UptoSaid' is the law's where the arguments, and the package variables that the reading takes, are together of bulk at most 1048576: NARROWER than '..Said'. Prove '..Said' where nothing that the law and all that it calls make is longer than what came in: it says more and counts as full. Else prove '..UptoSaid'. A law counts once. -/
mutual
def uptoBulk {H : Type} : DataW H → Nat
  | .lit (.string bytes) => bytes.length + 1
  | .lit _ => 1
  | .nil => 1
  | .ptr d => uptoBulk d + 1
  | .slice elems spare => uptoBulkAll elems + uptoBulkAll spare + 1
  | .agg parts => uptoBulkAll parts + 1
  | .iface _ d => uptoBulk d + 1
  | .map entries => uptoBulkEntries entries + 1
  | .held _ => 1
def uptoBulkAll {H : Type} : List (DataW H) → Nat
  | [] => 0
  | d :: r => uptoBulk d + uptoBulkAll r
def uptoBulkEntries {H : Type} : List (Lit × DataW H) → Nat
  | [] => 0
  | x :: r => uptoBulkEntry x + uptoBulkEntries r
def uptoBulkEntry {H : Type} : Lit × DataW H → Nat
  | (.string bytes, d) => bytes.length + uptoBulk d + 1
  | (_, d) => uptoBulk d + 1
 end
def uptoSmall : (H : Type) → List (DataW H) → Bool := fun _ ds => decide (uptoBulkAll ds ≤ 1048576)
def OpenSpec.upto (s : _root_.Go.ChangeSpec) : _root_.Go.OpenSpec := { _root_.Go.OpenSpec.ofChange s with cond := some uptoSmall }

/-- 'laws.FnMakeOffsetForLeaderEpochResponse', WHERE WHAT IT READS IS OF BULK AT MOST 1048576: true; the input reads as it did. -/
def fnMakeOffsetForLeaderEpochResponseUptoRow : OpenClaim := { program := "ytmehfgiadapekaa", sum := "03617fd696cf33f8cbcc514120657e2576a9a0a57668c6a6708ccdc78bf2f35a", func := "pub-mailsack/laws.FnMakeOffsetForLeaderEpochResponse", spec := "fnMakeOffsetForLeaderEpochResponse", inPlace := ["internal/reflectlite.ValueOf", "internal/reflectlite.Swapper", "(internal/reflectlite.Value).Len"], unfollowed := true, recurses := true, loops := true, apart := false, narrowed := true }
def FnMakeOffsetForLeaderEpochResponseUptoSaid : Prop := fnMakeOffsetForLeaderEpochResponseUptoRow.holds Try.pinned (OpenSpec.upto fnMakeOffsetForLeaderEpochResponseSpec)

/-- 'laws.FnMakeOffsetCommitResponse', WHERE WHAT IT READS IS OF BULK AT MOST 1048576: true; the input reads as it did. -/
def fnMakeOffsetCommitResponseUptoRow : OpenClaim := { program := "ytmehfgiadapekaa", sum := "03617fd696cf33f8cbcc514120657e2576a9a0a57668c6a6708ccdc78bf2f35a", func := "pub-mailsack/laws.FnMakeOffsetCommitResponse", spec := "fnMakeOffsetCommitResponse", inPlace := ["internal/reflectlite.ValueOf", "internal/reflectlite.Swapper", "(internal/reflectlite.Value).Len"], unfollowed := true, recurses := true, loops := true, apart := false, narrowed := true }
def FnMakeOffsetCommitResponseUptoSaid : Prop := fnMakeOffsetCommitResponseUptoRow.holds Try.pinned (OpenSpec.upto fnMakeOffsetCommitResponseSpec)

/-- 'laws.FnMakeInitializeShareGroupStateResponse', WHERE WHAT IT READS IS OF BULK AT MOST 1048576: true; the input reads as it did. -/
def fnMakeInitializeShareGroupStateResponseUptoRow : OpenClaim := { program := "ytmehfgiadapekaa", sum := "03617fd696cf33f8cbcc514120657e2576a9a0a57668c6a6708ccdc78bf2f35a", func := "pub-mailsack/laws.FnMakeInitializeShareGroupStateResponse", spec := "fnMakeInitializeShareGroupStateResponse", inPlace := ["internal/reflectlite.ValueOf", "internal/reflectlite.Swapper", "(internal/reflectlite.Value).Len"], unfollowed := true, recurses := true, loops := true, apart := false, narrowed := true }
def FnMakeInitializeShareGroupStateResponseUptoSaid : Prop := fnMakeInitializeShareGroupStateResponseUptoRow.holds Try.pinned (OpenSpec.upto fnMakeInitializeShareGroupStateResponseSpec)

/-- 'laws.FnMakeUpdateRaftVoterRequest', WHERE WHAT IT READS IS OF BULK AT MOST 1048576: true; the input reads as it did. -/
def fnMakeUpdateRaftVoterRequestUptoRow : OpenClaim := { program := "ytmehfgiadapekaa", sum := "03617fd696cf33f8cbcc514120657e2576a9a0a57668c6a6708ccdc78bf2f35a", func := "pub-mailsack/laws.FnMakeUpdateRaftVoterRequest", spec := "fnMakeUpdateRaftVoterRequest", inPlace := ["internal/reflectlite.ValueOf", "internal/reflectlite.Swapper", "(internal/reflectlite.Value).Len"], unfollowed := true, recurses := true, loops := true, apart := false, narrowed := true }
def FnMakeUpdateRaftVoterRequestUptoSaid : Prop := fnMakeUpdateRaftVoterRequestUptoRow.holds Try.pinned (OpenSpec.upto fnMakeUpdateRaftVoterRequestSpec)

/-- 'laws.FnMakeTxnOffsetCommitResponse', WHERE WHAT IT READS IS OF BULK AT MOST 1048576: true; the input reads as it did. -/
def fnMakeTxnOffsetCommitResponseUptoRow : OpenClaim := { program := "ytmehfgiadapekaa", sum := "03617fd696cf33f8cbcc514120657e2576a9a0a57668c6a6708ccdc78bf2f35a", func := "pub-mailsack/laws.FnMakeTxnOffsetCommitResponse", spec := "fnMakeTxnOffsetCommitResponse", inPlace := ["internal/reflectlite.ValueOf", "internal/reflectlite.Swapper", "(internal/reflectlite.Value).Len"], unfollowed := true, recurses := true, loops := true, apart := false, narrowed := true }
def FnMakeTxnOffsetCommitResponseUptoSaid : Prop := fnMakeTxnOffsetCommitResponseUptoRow.holds Try.pinned (OpenSpec.upto fnMakeTxnOffsetCommitResponseSpec)

/-- 'laws.FnMakeDescribeConfigsRequest', WHERE WHAT IT READS IS OF BULK AT MOST 1048576: true; the input reads as it did. -/
def fnMakeDescribeConfigsRequestUptoRow : OpenClaim := { program := "ytmehfgiadapekaa", sum := "03617fd696cf33f8cbcc514120657e2576a9a0a57668c6a6708ccdc78bf2f35a", func := "pub-mailsack/laws.FnMakeDescribeConfigsRequest", spec := "fnMakeDescribeConfigsRequest", inPlace := ["internal/reflectlite.ValueOf", "internal/reflectlite.Swapper", "(internal/reflectlite.Value).Len"], unfollowed := true, recurses := true, loops := true, apart := false, narrowed := true }
def FnMakeDescribeConfigsRequestUptoSaid : Prop := fnMakeDescribeConfigsRequestUptoRow.holds Try.pinned (OpenSpec.upto fnMakeDescribeConfigsRequestSpec)

/-- 'laws.FnMakeAlterUserSCRAMCredentialsRequest', WHERE WHAT IT READS IS OF BULK AT MOST 1048576: true; the input reads as it did. -/
def fnMakeAlterUserSCRAMCredentialsRequestUptoRow : OpenClaim := { program := "ytmehfgiadapekaa", sum := "03617fd696cf33f8cbcc514120657e2576a9a0a57668c6a6708ccdc78bf2f35a", func := "pub-mailsack/laws.FnMakeAlterUserSCRAMCredentialsRequest", spec := "fnMakeAlterUserSCRAMCredentialsRequest", inPlace := ["internal/reflectlite.ValueOf", "internal/reflectlite.Swapper", "(internal/reflectlite.Value).Len"], unfollowed := true, recurses := true, loops := true, apart := false, narrowed := true }
def FnMakeAlterUserSCRAMCredentialsRequestUptoSaid : Prop := fnMakeAlterUserSCRAMCredentialsRequestUptoRow.holds Try.pinned (OpenSpec.upto fnMakeAlterUserSCRAMCredentialsRequestSpec)

/-- 'laws.FnMakeWriteTxnMarkersRequest', WHERE WHAT IT READS IS OF BULK AT MOST 1048576: true; the input reads as it did. -/
def fnMakeWriteTxnMarkersRequestUptoRow : OpenClaim := { program := "ytmehfgiadapekaa", sum := "03617fd696cf33f8cbcc514120657e2576a9a0a57668c6a6708ccdc78bf2f35a", func := "pub-mailsack/laws.FnMakeWriteTxnMarkersRequest", spec := "fnMakeWriteTxnMarkersRequest", inPlace := ["internal/reflectlite.ValueOf", "internal/reflectlite.Swapper", "(internal/reflectlite.Value).Len"], unfollowed := true, recurses := true, loops := true, apart := false, narrowed := true }
def FnMakeWriteTxnMarkersRequestUptoSaid : Prop := fnMakeWriteTxnMarkersRequestUptoRow.holds Try.pinned (OpenSpec.upto fnMakeWriteTxnMarkersRequestSpec)

/-- 'laws.FnMakeDescribeDelegationTokenResponse', WHERE WHAT IT READS IS OF BULK AT MOST 1048576: true; the input reads as it did. -/
def fnMakeDescribeDelegationTokenResponseUptoRow : OpenClaim := { program := "ytmehfgiadapekaa", sum := "03617fd696cf33f8cbcc514120657e2576a9a0a57668c6a6708ccdc78bf2f35a", func := "pub-mailsack/laws.FnMakeDescribeDelegationTokenResponse", spec := "fnMakeDescribeDelegationTokenResponse", inPlace := ["internal/reflectlite.ValueOf", "internal/reflectlite.Swapper", "(internal/reflectlite.Value).Len"], unfollowed := true, recurses := true, loops := true, apart := false, narrowed := true }
def FnMakeDescribeDelegationTokenResponseUptoSaid : Prop := fnMakeDescribeDelegationTokenResponseUptoRow.holds Try.pinned (OpenSpec.upto fnMakeDescribeDelegationTokenResponseSpec)

/-- 'laws.FnMakeAlterPartitionRequest', WHERE WHAT IT READS IS OF BULK AT MOST 1048576: true; the input reads as it did. -/
def fnMakeAlterPartitionRequestUptoRow : OpenClaim := { program := "ytmehfgiadapekaa", sum := "03617fd696cf33f8cbcc514120657e2576a9a0a57668c6a6708ccdc78bf2f35a", func := "pub-mailsack/laws.FnMakeAlterPartitionRequest", spec := "fnMakeAlterPartitionRequest", inPlace := ["internal/reflectlite.ValueOf", "internal/reflectlite.Swapper", "(internal/reflectlite.Value).Len"], unfollowed := true, recurses := true, loops := true, apart := false, narrowed := true }
def FnMakeAlterPartitionRequestUptoSaid : Prop := fnMakeAlterPartitionRequestUptoRow.holds Try.pinned (OpenSpec.upto fnMakeAlterPartitionRequestSpec)

/-- 'laws.FnMakeOffsetCommitValue', WHERE WHAT IT READS IS OF BULK AT MOST 1048576: true; the input reads as it did. -/
def fnMakeOffsetCommitValueUptoRow : OpenClaim := { program := "ytmehfgiadapekaa", sum := "03617fd696cf33f8cbcc514120657e2576a9a0a57668c6a6708ccdc78bf2f35a", func := "pub-mailsack/laws.FnMakeOffsetCommitValue", spec := "fnMakeOffsetCommitValue", inPlace := ["internal/reflectlite.ValueOf", "internal/reflectlite.Swapper", "(internal/reflectlite.Value).Len"], unfollowed := true, recurses := true, loops := true, apart := false, narrowed := true }
def FnMakeOffsetCommitValueUptoSaid : Prop := fnMakeOffsetCommitValueUptoRow.holds Try.pinned (OpenSpec.upto fnMakeOffsetCommitValueSpec)

end Rows
end Go.Proofs.Ytmehfgiadapekaa
