/-
  NARROWER THAN 'FOR EVERY INPUT', by the rows' own cells (each row's printed sentence says how): FnMakePushTelemetryRequest: loops · FnMakeUpdateFeaturesResponse: loops · FnMakeOffsetForLeaderEpochResponse: loops · FnMakeOffsetCommitResponse: loops · FnMakeInitializeShareGroupStateResponse: loops · FnMakeUpdateRaftVoterRequest: loops.
  DERIVED. THE GIVEN ROWS OF THIS SEAT. 6 by the template 'for every input the law returns true; each argument reads behind the call as it read before'; 0 by the template 'total and deterministic' (their statements: YthkpmmjcmldjhaaTotals.lean).
  GIVEN WITH THE SEED: the statements are not yours to turn. If you find one false, say at which input.
  Laid BY PROGRAM, IN A SANDBOX (cutbox-rows.mjs): the forced cells as the released guide's own fill.sh prints them over the translation d7f76c872b1a67ce… (all of the seat's roots in one cut). By AI agents, Wed Nov 11 2026. No macro, syntax, notation, axiom, sorry.
-/
import Derived.Test.YthkpmmjcmldjhaaChecked
import GoSem.Claim
import GoSem.ClaimJoined
import GoSem.ClaimMapViews
import Derived.JoinedTies
import Derived.KernelRfl
namespace Go.Proofs.Ythkpmmjcmldjhaa
/- THE CELL 'sum', in the pinned program and in every row, IS THE sha256 OF THE DUMP (.gsa) THAT YthkpmmjcmldjhaaProg.lean LOADS. Nothing in Lean hashes anything: it is a label: what it is worth is what the hold of that sum in a sandbox is worth. -/
noncomputable def Try.pinned : Pinned := { name := "ythkpmmjcmldjhaa", sum := "d7f76c872b1a67cea0ff5a896058f7bab8427049ec955f7ddd2f1f934fbdeaad", checked := Try.checked }
namespace Rows
def none {H : Type} : Left H := { results := [], args := [] }

/-- 'laws.FnMakePushTelemetryRequest': WHATEVER THE INPUT: true; the input reads as it did. -/
def fnMakePushTelemetryRequestSpec : ChangeSpec := { name := "fnMakePushTelemetryRequest", fn := fun _ => fun
  | [d1, d2] => { results := [.lit (.bool true)], args := [d1, d2] }
  | _ => none }
def fnMakePushTelemetryRequestRow : OpenClaim := { program := "ythkpmmjcmldjhaa", sum := "d7f76c872b1a67cea0ff5a896058f7bab8427049ec955f7ddd2f1f934fbdeaad", func := "pub-mailsack/laws.FnMakePushTelemetryRequest", spec := "fnMakePushTelemetryRequest", inPlace := ["internal/reflectlite.ValueOf", "internal/reflectlite.Swapper", "(internal/reflectlite.Value).Len"], unfollowed := true, recurses := true, loops := true, apart := false }
def FnMakePushTelemetryRequestSaid : Prop := fnMakePushTelemetryRequestRow.holds Try.pinned (OpenSpec.ofChange fnMakePushTelemetryRequestSpec)

/-- ITS FALSE NEIGHBOUR: 'it returns false'. Refute it at one input. -/
def fnMakePushTelemetryRequestWrong : ChangeSpec := { name := "fnMakePushTelemetryRequest", fn := fun _ => fun
  | [d1, d2] => { results := [.lit (.bool false)], args := [d1, d2] }
  | _ => none }
def FnMakePushTelemetryRequestWrongFalsely : Prop := fnMakePushTelemetryRequestRow.holds Try.pinned (OpenSpec.ofChange fnMakePushTelemetryRequestWrong)

/-- 'laws.FnMakeUpdateFeaturesResponse': WHATEVER THE INPUT: true; the input reads as it did. -/
def fnMakeUpdateFeaturesResponseSpec : ChangeSpec := { name := "fnMakeUpdateFeaturesResponse", fn := fun _ => fun
  | [d1, d2] => { results := [.lit (.bool true)], args := [d1, d2] }
  | _ => none }
def fnMakeUpdateFeaturesResponseRow : OpenClaim := { program := "ythkpmmjcmldjhaa", sum := "d7f76c872b1a67cea0ff5a896058f7bab8427049ec955f7ddd2f1f934fbdeaad", func := "pub-mailsack/laws.FnMakeUpdateFeaturesResponse", spec := "fnMakeUpdateFeaturesResponse", inPlace := ["internal/reflectlite.ValueOf", "internal/reflectlite.Swapper", "(internal/reflectlite.Value).Len"], unfollowed := true, recurses := true, loops := true, apart := false }
def FnMakeUpdateFeaturesResponseSaid : Prop := fnMakeUpdateFeaturesResponseRow.holds Try.pinned (OpenSpec.ofChange fnMakeUpdateFeaturesResponseSpec)

/-- ITS FALSE NEIGHBOUR: 'it returns false'. Refute it at one input. -/
def fnMakeUpdateFeaturesResponseWrong : ChangeSpec := { name := "fnMakeUpdateFeaturesResponse", fn := fun _ => fun
  | [d1, d2] => { results := [.lit (.bool false)], args := [d1, d2] }
  | _ => none }
def FnMakeUpdateFeaturesResponseWrongFalsely : Prop := fnMakeUpdateFeaturesResponseRow.holds Try.pinned (OpenSpec.ofChange fnMakeUpdateFeaturesResponseWrong)

/-- 'laws.FnMakeOffsetForLeaderEpochResponse': WHATEVER THE INPUT: true; the input reads as it did. -/
def fnMakeOffsetForLeaderEpochResponseSpec : ChangeSpec := { name := "fnMakeOffsetForLeaderEpochResponse", fn := fun _ => fun
  | [d1, d2] => { results := [.lit (.bool true)], args := [d1, d2] }
  | _ => none }
def fnMakeOffsetForLeaderEpochResponseRow : OpenClaim := { program := "ythkpmmjcmldjhaa", sum := "d7f76c872b1a67cea0ff5a896058f7bab8427049ec955f7ddd2f1f934fbdeaad", func := "pub-mailsack/laws.FnMakeOffsetForLeaderEpochResponse", spec := "fnMakeOffsetForLeaderEpochResponse", inPlace := ["internal/reflectlite.ValueOf", "internal/reflectlite.Swapper", "(internal/reflectlite.Value).Len"], unfollowed := true, recurses := true, loops := true, apart := false }
def FnMakeOffsetForLeaderEpochResponseSaid : Prop := fnMakeOffsetForLeaderEpochResponseRow.holds Try.pinned (OpenSpec.ofChange fnMakeOffsetForLeaderEpochResponseSpec)

/-- ITS FALSE NEIGHBOUR: 'it returns false'. Refute it at one input. -/
def fnMakeOffsetForLeaderEpochResponseWrong : ChangeSpec := { name := "fnMakeOffsetForLeaderEpochResponse", fn := fun _ => fun
  | [d1, d2] => { results := [.lit (.bool false)], args := [d1, d2] }
  | _ => none }
def FnMakeOffsetForLeaderEpochResponseWrongFalsely : Prop := fnMakeOffsetForLeaderEpochResponseRow.holds Try.pinned (OpenSpec.ofChange fnMakeOffsetForLeaderEpochResponseWrong)

/-- 'laws.FnMakeOffsetCommitResponse': WHATEVER THE INPUT: true; the input reads as it did. -/
def fnMakeOffsetCommitResponseSpec : ChangeSpec := { name := "fnMakeOffsetCommitResponse", fn := fun _ => fun
  | [d1, d2] => { results := [.lit (.bool true)], args := [d1, d2] }
  | _ => none }
def fnMakeOffsetCommitResponseRow : OpenClaim := { program := "ythkpmmjcmldjhaa", sum := "d7f76c872b1a67cea0ff5a896058f7bab8427049ec955f7ddd2f1f934fbdeaad", func := "pub-mailsack/laws.FnMakeOffsetCommitResponse", spec := "fnMakeOffsetCommitResponse", inPlace := ["internal/reflectlite.ValueOf", "internal/reflectlite.Swapper", "(internal/reflectlite.Value).Len"], unfollowed := true, recurses := true, loops := true, apart := false }
def FnMakeOffsetCommitResponseSaid : Prop := fnMakeOffsetCommitResponseRow.holds Try.pinned (OpenSpec.ofChange fnMakeOffsetCommitResponseSpec)

/-- ITS FALSE NEIGHBOUR: 'it returns false'. Refute it at one input. -/
def fnMakeOffsetCommitResponseWrong : ChangeSpec := { name := "fnMakeOffsetCommitResponse", fn := fun _ => fun
  | [d1, d2] => { results := [.lit (.bool false)], args := [d1, d2] }
  | _ => none }
def FnMakeOffsetCommitResponseWrongFalsely : Prop := fnMakeOffsetCommitResponseRow.holds Try.pinned (OpenSpec.ofChange fnMakeOffsetCommitResponseWrong)

/-- 'laws.FnMakeInitializeShareGroupStateResponse': WHATEVER THE INPUT: true; the input reads as it did. -/
def fnMakeInitializeShareGroupStateResponseSpec : ChangeSpec := { name := "fnMakeInitializeShareGroupStateResponse", fn := fun _ => fun
  | [d1, d2] => { results := [.lit (.bool true)], args := [d1, d2] }
  | _ => none }
def fnMakeInitializeShareGroupStateResponseRow : OpenClaim := { program := "ythkpmmjcmldjhaa", sum := "d7f76c872b1a67cea0ff5a896058f7bab8427049ec955f7ddd2f1f934fbdeaad", func := "pub-mailsack/laws.FnMakeInitializeShareGroupStateResponse", spec := "fnMakeInitializeShareGroupStateResponse", inPlace := ["internal/reflectlite.ValueOf", "internal/reflectlite.Swapper", "(internal/reflectlite.Value).Len"], unfollowed := true, recurses := true, loops := true, apart := false }
def FnMakeInitializeShareGroupStateResponseSaid : Prop := fnMakeInitializeShareGroupStateResponseRow.holds Try.pinned (OpenSpec.ofChange fnMakeInitializeShareGroupStateResponseSpec)

/-- ITS FALSE NEIGHBOUR: 'it returns false'. Refute it at one input. -/
def fnMakeInitializeShareGroupStateResponseWrong : ChangeSpec := { name := "fnMakeInitializeShareGroupStateResponse", fn := fun _ => fun
  | [d1, d2] => { results := [.lit (.bool false)], args := [d1, d2] }
  | _ => none }
def FnMakeInitializeShareGroupStateResponseWrongFalsely : Prop := fnMakeInitializeShareGroupStateResponseRow.holds Try.pinned (OpenSpec.ofChange fnMakeInitializeShareGroupStateResponseWrong)

/-- 'laws.FnMakeUpdateRaftVoterRequest': WHATEVER THE INPUT: true; the input reads as it did. -/
def fnMakeUpdateRaftVoterRequestSpec : ChangeSpec := { name := "fnMakeUpdateRaftVoterRequest", fn := fun _ => fun
  | [d1, d2] => { results := [.lit (.bool true)], args := [d1, d2] }
  | _ => none }
def fnMakeUpdateRaftVoterRequestRow : OpenClaim := { program := "ythkpmmjcmldjhaa", sum := "d7f76c872b1a67cea0ff5a896058f7bab8427049ec955f7ddd2f1f934fbdeaad", func := "pub-mailsack/laws.FnMakeUpdateRaftVoterRequest", spec := "fnMakeUpdateRaftVoterRequest", inPlace := ["internal/reflectlite.ValueOf", "internal/reflectlite.Swapper", "(internal/reflectlite.Value).Len"], unfollowed := true, recurses := true, loops := true, apart := false }
def FnMakeUpdateRaftVoterRequestSaid : Prop := fnMakeUpdateRaftVoterRequestRow.holds Try.pinned (OpenSpec.ofChange fnMakeUpdateRaftVoterRequestSpec)

/-- ITS FALSE NEIGHBOUR: 'it returns false'. Refute it at one input. -/
def fnMakeUpdateRaftVoterRequestWrong : ChangeSpec := { name := "fnMakeUpdateRaftVoterRequest", fn := fun _ => fun
  | [d1, d2] => { results := [.lit (.bool false)], args := [d1, d2] }
  | _ => none }
def FnMakeUpdateRaftVoterRequestWrongFalsely : Prop := fnMakeUpdateRaftVoterRequestRow.holds Try.pinned (OpenSpec.ofChange fnMakeUpdateRaftVoterRequestWrong)

/- THE SECOND FORM. 'bulk': how many values and letters a reading holds, each counted each time it is reached (what is shared counts as often as it is met; a slice's spare places count too). A statement '..UptoSaid' is the law's where the arguments, and the package variables that the reading takes, are together of bulk at most 1048576: NARROWER than '..Said'. Prove '..Said' where nothing that the law and all that it calls make is longer than what came in: it says more and counts as full. Else prove '..UptoSaid'. A law counts once. -/
mutual
def uptoBulk {H : Type} : DataW H → Nat
  | .lit (.string bytes) => bytes.length + 1
  | .lit _ => 1
  | .nil => 1
  | .ptr d => uptoBulk d + 1
  | .slice elems spare => uptoBulkAll elems + uptoBulkAll spare + 1
  | .agg parts => uptoBulkAll parts + 1
  | .iface _ d => uptoBulk d + 1
  | .map entries => uptoBulkEntries entries + 1
  | .held _ => 1
def uptoBulkAll {H : Type} : List (DataW H) → Nat
  | [] => 0
  | d :: r => uptoBulk d + uptoBulkAll r
def uptoBulkEntries {H : Type} : List (Lit × DataW H) → Nat
  | [] => 0
  | x :: r => uptoBulkEntry x + uptoBulkEntries r
def uptoBulkEntry {H : Type} : Lit × DataW H → Nat
  | (.string bytes, d) => bytes.length + uptoBulk d + 1
  | (_, d) => uptoBulk d + 1
 end
def uptoSmall : (H : Type) → List (DataW H) → Bool := fun _ ds => decide (uptoBulkAll ds ≤ 1048576)
def OpenSpec.upto (s : _root_.Go.ChangeSpec) : _root_.Go.OpenSpec := { _root_.Go.OpenSpec.ofChange s with cond := some uptoSmall }

/-- 'laws.FnMakePushTelemetryRequest', WHERE WHAT IT READS IS OF BULK AT MOST 1048576: true; the input reads as it did. -/
def fnMakePushTelemetryRequestUptoRow : OpenClaim := { program := "ythkpmmjcmldjhaa", sum := "d7f76c872b1a67cea0ff5a896058f7bab8427049ec955f7ddd2f1f934fbdeaad", func := "pub-mailsack/laws.FnMakePushTelemetryRequest", spec := "fnMakePushTelemetryRequest", inPlace := ["internal/reflectlite.ValueOf", "internal/reflectlite.Swapper", "(internal/reflectlite.Value).Len"], unfollowed := true, recurses := true, loops := true, apart := false, narrowed := true }
def FnMakePushTelemetryRequestUptoSaid : Prop := fnMakePushTelemetryRequestUptoRow.holds Try.pinned (OpenSpec.upto fnMakePushTelemetryRequestSpec)

/-- 'laws.FnMakeUpdateFeaturesResponse', WHERE WHAT IT READS IS OF BULK AT MOST 1048576: true; the input reads as it did. -/
def fnMakeUpdateFeaturesResponseUptoRow : OpenClaim := { program := "ythkpmmjcmldjhaa", sum := "d7f76c872b1a67cea0ff5a896058f7bab8427049ec955f7ddd2f1f934fbdeaad", func := "pub-mailsack/laws.FnMakeUpdateFeaturesResponse", spec := "fnMakeUpdateFeaturesResponse", inPlace := ["internal/reflectlite.ValueOf", "internal/reflectlite.Swapper", "(internal/reflectlite.Value).Len"], unfollowed := true, recurses := true, loops := true, apart := false, narrowed := true }
def FnMakeUpdateFeaturesResponseUptoSaid : Prop := fnMakeUpdateFeaturesResponseUptoRow.holds Try.pinned (OpenSpec.upto fnMakeUpdateFeaturesResponseSpec)

/-- 'laws.FnMakeOffsetForLeaderEpochResponse', WHERE WHAT IT READS IS OF BULK AT MOST 1048576: true; the input reads as it did. -/
def fnMakeOffsetForLeaderEpochResponseUptoRow : OpenClaim := { program := "ythkpmmjcmldjhaa", sum := "d7f76c872b1a67cea0ff5a896058f7bab8427049ec955f7ddd2f1f934fbdeaad", func := "pub-mailsack/laws.FnMakeOffsetForLeaderEpochResponse", spec := "fnMakeOffsetForLeaderEpochResponse", inPlace := ["internal/reflectlite.ValueOf", "internal/reflectlite.Swapper", "(internal/reflectlite.Value).Len"], unfollowed := true, recurses := true, loops := true, apart := false, narrowed := true }
def FnMakeOffsetForLeaderEpochResponseUptoSaid : Prop := fnMakeOffsetForLeaderEpochResponseUptoRow.holds Try.pinned (OpenSpec.upto fnMakeOffsetForLeaderEpochResponseSpec)

/-- 'laws.FnMakeOffsetCommitResponse', WHERE WHAT IT READS IS OF BULK AT MOST 1048576: true; the input reads as it did. -/
def fnMakeOffsetCommitResponseUptoRow : OpenClaim := { program := "ythkpmmjcmldjhaa", sum := "d7f76c872b1a67cea0ff5a896058f7bab8427049ec955f7ddd2f1f934fbdeaad", func := "pub-mailsack/laws.FnMakeOffsetCommitResponse", spec := "fnMakeOffsetCommitResponse", inPlace := ["internal/reflectlite.ValueOf", "internal/reflectlite.Swapper", "(internal/reflectlite.Value).Len"], unfollowed := true, recurses := true, loops := true, apart := false, narrowed := true }
def FnMakeOffsetCommitResponseUptoSaid : Prop := fnMakeOffsetCommitResponseUptoRow.holds Try.pinned (OpenSpec.upto fnMakeOffsetCommitResponseSpec)

/-- 'laws.FnMakeInitializeShareGroupStateResponse', WHERE WHAT IT READS IS OF BULK AT MOST 1048576: true; the input reads as it did. -/
def fnMakeInitializeShareGroupStateResponseUptoRow : OpenClaim := { program := "ythkpmmjcmldjhaa", sum := "d7f76c872b1a67cea0ff5a896058f7bab8427049ec955f7ddd2f1f934fbdeaad", func := "pub-mailsack/laws.FnMakeInitializeShareGroupStateResponse", spec := "fnMakeInitializeShareGroupStateResponse", inPlace := ["internal/reflectlite.ValueOf", "internal/reflectlite.Swapper", "(internal/reflectlite.Value).Len"], unfollowed := true, recurses := true, loops := true, apart := false, narrowed := true }
def FnMakeInitializeShareGroupStateResponseUptoSaid : Prop := fnMakeInitializeShareGroupStateResponseUptoRow.holds Try.pinned (OpenSpec.upto fnMakeInitializeShareGroupStateResponseSpec)

/-- 'laws.FnMakeUpdateRaftVoterRequest', WHERE WHAT IT READS IS OF BULK AT MOST 1048576: true; the input reads as it did. -/
def fnMakeUpdateRaftVoterRequestUptoRow : OpenClaim := { program := "ythkpmmjcmldjhaa", sum := "d7f76c872b1a67cea0ff5a896058f7bab8427049ec955f7ddd2f1f934fbdeaad", func := "pub-mailsack/laws.FnMakeUpdateRaftVoterRequest", spec := "fnMakeUpdateRaftVoterRequest", inPlace := ["internal/reflectlite.ValueOf", "internal/reflectlite.Swapper", "(internal/reflectlite.Value).Len"], unfollowed := true, recurses := true, loops := true, apart := false, narrowed := true }
def FnMakeUpdateRaftVoterRequestUptoSaid : Prop := fnMakeUpdateRaftVoterRequestUptoRow.holds Try.pinned (OpenSpec.upto fnMakeUpdateRaftVoterRequestSpec)

end Rows
end Go.Proofs.Ythkpmmjcmldjhaa
