/-
  NARROWER THAN 'FOR EVERY INPUT', by the rows' own cells (each row's printed sentence says how): FnTellDescribeProducersResponse: loops, laid · FnTellAlterClientQuotasRequest: loops, laid · FnTellDescribeClientQuotasResponse: loops, laid · FnTellOffsetFetchRequest: loops, laid · FnTellDescribeTopicPartitionsResponse: loops, laid · FnDefaultListOffsetsRequest: loops, laid · FnDefaultJoinGroupResponse: loops, laid · FnBehindListConfigResourcesResponse: loops, laid.
  DERIVED. THE GIVEN ROWS OF THIS SEAT. 8 by the template 'for every input the law returns true; each argument reads behind the call as it read before'; 0 by the template 'total and deterministic' (their statements: YtpecdnfmlodmaaaGreatDoorRTotals.lean).
  GIVEN WITH THE SEED: the statements are not yours to turn. If you find one false, say at which input.
  Laid BY PROGRAM, IN A SANDBOX (cutbox-rows.mjs): the forced cells as the released guide's own fill.sh prints them over the translation 5d85f975e167eff8… (all of the seat's roots in one cut). By AI agents, Wed Nov 11 2026. No macro, syntax, notation, axiom, sorry.
-/
import Derived.Test.YtpecdnfmlodmaaaGreatDoorRChecked
import GoSem.Claim
import GoSem.ClaimJoined
import GoSem.ClaimMapViews
import Derived.JoinedTies
import Derived.KernelRfl
namespace Go.Proofs.YtpecdnfmlodmaaaGreatDoorR
/- THE CELL 'sum', in the pinned program and in every row, IS THE sha256 OF THE DUMP (.gsa) THAT YtpecdnfmlodmaaaGreatDoorRProg.lean LOADS. Nothing in Lean hashes anything: it is a label: what it is worth is what the hold of that sum in a sandbox is worth. -/
noncomputable def Tryz.pinned : Pinned := { name := "ytpecdnfmlodmaaagreatdoorr", sum := "5d85f975e167eff8d7b718f7fcb341297b73d7ccc204391bf01b7effb26078a2", checked := Tryz.checked }
namespace Rows
def none {H : Type} : Left H := { results := [], args := [] }

/- WHAT THE LISTED PACKAGE-LEVEL VARIABLES READ AS WHEN THE CALL BEGINS. Each datum BY PROGRAM (the guide's laid-datum.mjs) off the statement by which the dump's own 'gosem.cut.vars' lays the variable. In a bare row this is a premise. The card (YtpecdnfmlodmaaaGreatDoorRCards.lean) ties it to the program's text. -/
def laid_pub_mailsack_pub_kmsg_inner_kbin_ErrNotEnoughData {H : Type} : DataW H := .iface "*errors.errorString" (.ptr (.agg [.lit (.string [114, 101, 115, 112, 111, 110, 115, 101, 32, 100, 105, 100, 32, 110, 111, 116, 32, 99, 111, 110, 116, 97, 105, 110, 32, 101, 110, 111, 117, 103, 104, 32, 100, 97, 116, 97, 32, 116, 111, 32, 98, 101, 32, 118, 97, 108, 105, 100])]))

/-- 'laws.FnTellDescribeProducersResponse': WHATEVER THE INPUT: true; the input reads as it did. -/
def fnTellDescribeProducersResponseSpec : ChangeSpec := { name := "fnTellDescribeProducersResponse", fn := fun _ => fun
  | [d1, d2] => { results := [.lit (.bool true)], args := [d1, d2] }
  | _ => none }
def fnTellDescribeProducersResponseRow : OpenClaim := { program := "ytpecdnfmlodmaaagreatdoorr", sum := "5d85f975e167eff8d7b718f7fcb341297b73d7ccc204391bf01b7effb26078a2", func := "pub-mailsack/laws.FnTellDescribeProducersResponse", spec := "fnTellDescribeProducersResponse", inPlace := ["internal/reflectlite.ValueOf", "internal/reflectlite.Swapper", "(internal/reflectlite.Value).Len"], unfollowed := true, recurses := true, named := ["encoding/binary.BigEndian", "pub-mailsack/pub/kmsg/inner/kbin.ErrNotEnoughData"], loops := true, apart := false, laid := [("pub-mailsack/pub/kmsg/inner/kbin.ErrNotEnoughData", laid_pub_mailsack_pub_kmsg_inner_kbin_ErrNotEnoughData)] }
def FnTellDescribeProducersResponseSaid : Prop := fnTellDescribeProducersResponseRow.holds Tryz.pinned (OpenSpec.ofChange fnTellDescribeProducersResponseSpec)

/-- ITS FALSE NEIGHBOUR: 'it returns false'. Refute it at one input. -/
def fnTellDescribeProducersResponseWrong : ChangeSpec := { name := "fnTellDescribeProducersResponse", fn := fun _ => fun
  | [d1, d2] => { results := [.lit (.bool false)], args := [d1, d2] }
  | _ => none }
def FnTellDescribeProducersResponseWrongFalsely : Prop := fnTellDescribeProducersResponseRow.holds Tryz.pinned (OpenSpec.ofChange fnTellDescribeProducersResponseWrong)

/-- 'laws.FnTellAlterClientQuotasRequest': WHATEVER THE INPUT: true; the input reads as it did. -/
def fnTellAlterClientQuotasRequestSpec : ChangeSpec := { name := "fnTellAlterClientQuotasRequest", fn := fun _ => fun
  | [d1, d2] => { results := [.lit (.bool true)], args := [d1, d2] }
  | _ => none }
def fnTellAlterClientQuotasRequestRow : OpenClaim := { program := "ytpecdnfmlodmaaagreatdoorr", sum := "5d85f975e167eff8d7b718f7fcb341297b73d7ccc204391bf01b7effb26078a2", func := "pub-mailsack/laws.FnTellAlterClientQuotasRequest", spec := "fnTellAlterClientQuotasRequest", inPlace := ["math.Float64frombits", "internal/reflectlite.ValueOf", "internal/reflectlite.Swapper", "(internal/reflectlite.Value).Len", "math.Float64bits"], unfollowed := true, recurses := true, named := ["encoding/binary.BigEndian", "pub-mailsack/pub/kmsg/inner/kbin.ErrNotEnoughData"], loops := true, apart := false, laid := [("pub-mailsack/pub/kmsg/inner/kbin.ErrNotEnoughData", laid_pub_mailsack_pub_kmsg_inner_kbin_ErrNotEnoughData)] }
def FnTellAlterClientQuotasRequestSaid : Prop := fnTellAlterClientQuotasRequestRow.holds Tryz.pinned (OpenSpec.ofChange fnTellAlterClientQuotasRequestSpec)

/-- ITS FALSE NEIGHBOUR: 'it returns false'. Refute it at one input. -/
def fnTellAlterClientQuotasRequestWrong : ChangeSpec := { name := "fnTellAlterClientQuotasRequest", fn := fun _ => fun
  | [d1, d2] => { results := [.lit (.bool false)], args := [d1, d2] }
  | _ => none }
def FnTellAlterClientQuotasRequestWrongFalsely : Prop := fnTellAlterClientQuotasRequestRow.holds Tryz.pinned (OpenSpec.ofChange fnTellAlterClientQuotasRequestWrong)

/-- 'laws.FnTellDescribeClientQuotasResponse': WHATEVER THE INPUT: true; the input reads as it did. -/
def fnTellDescribeClientQuotasResponseSpec : ChangeSpec := { name := "fnTellDescribeClientQuotasResponse", fn := fun _ => fun
  | [d1, d2] => { results := [.lit (.bool true)], args := [d1, d2] }
  | _ => none }
def fnTellDescribeClientQuotasResponseRow : OpenClaim := { program := "ytpecdnfmlodmaaagreatdoorr", sum := "5d85f975e167eff8d7b718f7fcb341297b73d7ccc204391bf01b7effb26078a2", func := "pub-mailsack/laws.FnTellDescribeClientQuotasResponse", spec := "fnTellDescribeClientQuotasResponse", inPlace := ["math.Float64frombits", "internal/reflectlite.ValueOf", "internal/reflectlite.Swapper", "(internal/reflectlite.Value).Len", "math.Float64bits"], unfollowed := true, recurses := true, named := ["encoding/binary.BigEndian", "pub-mailsack/pub/kmsg/inner/kbin.ErrNotEnoughData"], loops := true, apart := false, laid := [("pub-mailsack/pub/kmsg/inner/kbin.ErrNotEnoughData", laid_pub_mailsack_pub_kmsg_inner_kbin_ErrNotEnoughData)] }
def FnTellDescribeClientQuotasResponseSaid : Prop := fnTellDescribeClientQuotasResponseRow.holds Tryz.pinned (OpenSpec.ofChange fnTellDescribeClientQuotasResponseSpec)

/-- ITS FALSE NEIGHBOUR: 'it returns false'. Refute it at one input. -/
def fnTellDescribeClientQuotasResponseWrong : ChangeSpec := { name := "fnTellDescribeClientQuotasResponse", fn := fun _ => fun
  | [d1, d2] => { results := [.lit (.bool false)], args := [d1, d2] }
  | _ => none }
def FnTellDescribeClientQuotasResponseWrongFalsely : Prop := fnTellDescribeClientQuotasResponseRow.holds Tryz.pinned (OpenSpec.ofChange fnTellDescribeClientQuotasResponseWrong)

/-- 'laws.FnTellOffsetFetchRequest': WHATEVER THE INPUT: true; the input reads as it did. -/
def fnTellOffsetFetchRequestSpec : ChangeSpec := { name := "fnTellOffsetFetchRequest", fn := fun _ => fun
  | [d1, d2] => { results := [.lit (.bool true)], args := [d1, d2] }
  | _ => none }
def fnTellOffsetFetchRequestRow : OpenClaim := { program := "ytpecdnfmlodmaaagreatdoorr", sum := "5d85f975e167eff8d7b718f7fcb341297b73d7ccc204391bf01b7effb26078a2", func := "pub-mailsack/laws.FnTellOffsetFetchRequest", spec := "fnTellOffsetFetchRequest", inPlace := ["internal/reflectlite.ValueOf", "internal/reflectlite.Swapper", "(internal/reflectlite.Value).Len"], unfollowed := true, recurses := true, named := ["encoding/binary.BigEndian", "pub-mailsack/pub/kmsg/inner/kbin.ErrNotEnoughData"], loops := true, apart := false, laid := [("pub-mailsack/pub/kmsg/inner/kbin.ErrNotEnoughData", laid_pub_mailsack_pub_kmsg_inner_kbin_ErrNotEnoughData)] }
def FnTellOffsetFetchRequestSaid : Prop := fnTellOffsetFetchRequestRow.holds Tryz.pinned (OpenSpec.ofChange fnTellOffsetFetchRequestSpec)

/-- ITS FALSE NEIGHBOUR: 'it returns false'. Refute it at one input. -/
def fnTellOffsetFetchRequestWrong : ChangeSpec := { name := "fnTellOffsetFetchRequest", fn := fun _ => fun
  | [d1, d2] => { results := [.lit (.bool false)], args := [d1, d2] }
  | _ => none }
def FnTellOffsetFetchRequestWrongFalsely : Prop := fnTellOffsetFetchRequestRow.holds Tryz.pinned (OpenSpec.ofChange fnTellOffsetFetchRequestWrong)

/-- 'laws.FnTellDescribeTopicPartitionsResponse': WHATEVER THE INPUT: true; the input reads as it did. -/
def fnTellDescribeTopicPartitionsResponseSpec : ChangeSpec := { name := "fnTellDescribeTopicPartitionsResponse", fn := fun _ => fun
  | [d1, d2] => { results := [.lit (.bool true)], args := [d1, d2] }
  | _ => none }
def fnTellDescribeTopicPartitionsResponseRow : OpenClaim := { program := "ytpecdnfmlodmaaagreatdoorr", sum := "5d85f975e167eff8d7b718f7fcb341297b73d7ccc204391bf01b7effb26078a2", func := "pub-mailsack/laws.FnTellDescribeTopicPartitionsResponse", spec := "fnTellDescribeTopicPartitionsResponse", inPlace := ["internal/reflectlite.ValueOf", "internal/reflectlite.Swapper", "(internal/reflectlite.Value).Len"], unfollowed := true, recurses := true, named := ["encoding/binary.BigEndian", "pub-mailsack/pub/kmsg/inner/kbin.ErrNotEnoughData"], loops := true, apart := false, laid := [("pub-mailsack/pub/kmsg/inner/kbin.ErrNotEnoughData", laid_pub_mailsack_pub_kmsg_inner_kbin_ErrNotEnoughData)] }
def FnTellDescribeTopicPartitionsResponseSaid : Prop := fnTellDescribeTopicPartitionsResponseRow.holds Tryz.pinned (OpenSpec.ofChange fnTellDescribeTopicPartitionsResponseSpec)

/-- ITS FALSE NEIGHBOUR: 'it returns false'. Refute it at one input. -/
def fnTellDescribeTopicPartitionsResponseWrong : ChangeSpec := { name := "fnTellDescribeTopicPartitionsResponse", fn := fun _ => fun
  | [d1, d2] => { results := [.lit (.bool false)], args := [d1, d2] }
  | _ => none }
def FnTellDescribeTopicPartitionsResponseWrongFalsely : Prop := fnTellDescribeTopicPartitionsResponseRow.holds Tryz.pinned (OpenSpec.ofChange fnTellDescribeTopicPartitionsResponseWrong)

/-- 'laws.FnDefaultListOffsetsRequest': WHATEVER THE INPUT: true; the input reads as it did. -/
def fnDefaultListOffsetsRequestSpec : ChangeSpec := { name := "fnDefaultListOffsetsRequest", fn := fun _ => fun
  | [d1, d2] => { results := [.lit (.bool true)], args := [d1, d2] }
  | _ => none }
def fnDefaultListOffsetsRequestRow : OpenClaim := { program := "ytpecdnfmlodmaaagreatdoorr", sum := "5d85f975e167eff8d7b718f7fcb341297b73d7ccc204391bf01b7effb26078a2", func := "pub-mailsack/laws.FnDefaultListOffsetsRequest", spec := "fnDefaultListOffsetsRequest", inPlace := ["internal/reflectlite.ValueOf", "internal/reflectlite.Swapper", "(internal/reflectlite.Value).Len"], unfollowed := true, recurses := true, named := ["encoding/binary.BigEndian", "pub-mailsack/pub/kmsg/inner/kbin.ErrNotEnoughData"], loops := true, apart := false, laid := [("pub-mailsack/pub/kmsg/inner/kbin.ErrNotEnoughData", laid_pub_mailsack_pub_kmsg_inner_kbin_ErrNotEnoughData)] }
def FnDefaultListOffsetsRequestSaid : Prop := fnDefaultListOffsetsRequestRow.holds Tryz.pinned (OpenSpec.ofChange fnDefaultListOffsetsRequestSpec)

/-- ITS FALSE NEIGHBOUR: 'it returns false'. Refute it at one input. -/
def fnDefaultListOffsetsRequestWrong : ChangeSpec := { name := "fnDefaultListOffsetsRequest", fn := fun _ => fun
  | [d1, d2] => { results := [.lit (.bool false)], args := [d1, d2] }
  | _ => none }
def FnDefaultListOffsetsRequestWrongFalsely : Prop := fnDefaultListOffsetsRequestRow.holds Tryz.pinned (OpenSpec.ofChange fnDefaultListOffsetsRequestWrong)

/-- 'laws.FnDefaultJoinGroupResponse': WHATEVER THE INPUT: true; the input reads as it did. -/
def fnDefaultJoinGroupResponseSpec : ChangeSpec := { name := "fnDefaultJoinGroupResponse", fn := fun _ => fun
  | [d1, d2] => { results := [.lit (.bool true)], args := [d1, d2] }
  | _ => none }
def fnDefaultJoinGroupResponseRow : OpenClaim := { program := "ytpecdnfmlodmaaagreatdoorr", sum := "5d85f975e167eff8d7b718f7fcb341297b73d7ccc204391bf01b7effb26078a2", func := "pub-mailsack/laws.FnDefaultJoinGroupResponse", spec := "fnDefaultJoinGroupResponse", inPlace := ["internal/reflectlite.ValueOf", "internal/reflectlite.Swapper", "(internal/reflectlite.Value).Len"], unfollowed := true, recurses := true, named := ["encoding/binary.BigEndian", "pub-mailsack/pub/kmsg/inner/kbin.ErrNotEnoughData"], loops := true, apart := false, laid := [("pub-mailsack/pub/kmsg/inner/kbin.ErrNotEnoughData", laid_pub_mailsack_pub_kmsg_inner_kbin_ErrNotEnoughData)] }
def FnDefaultJoinGroupResponseSaid : Prop := fnDefaultJoinGroupResponseRow.holds Tryz.pinned (OpenSpec.ofChange fnDefaultJoinGroupResponseSpec)

/-- ITS FALSE NEIGHBOUR: 'it returns false'. Refute it at one input. -/
def fnDefaultJoinGroupResponseWrong : ChangeSpec := { name := "fnDefaultJoinGroupResponse", fn := fun _ => fun
  | [d1, d2] => { results := [.lit (.bool false)], args := [d1, d2] }
  | _ => none }
def FnDefaultJoinGroupResponseWrongFalsely : Prop := fnDefaultJoinGroupResponseRow.holds Tryz.pinned (OpenSpec.ofChange fnDefaultJoinGroupResponseWrong)

/-- 'laws.FnBehindListConfigResourcesResponse': WHATEVER THE INPUT: true; the input reads as it did. -/
def fnBehindListConfigResourcesResponseSpec : ChangeSpec := { name := "fnBehindListConfigResourcesResponse", fn := fun _ => fun
  | [d1, d2, d3] => { results := [.lit (.bool true)], args := [d1, d2, d3] }
  | _ => none }
def fnBehindListConfigResourcesResponseRow : OpenClaim := { program := "ytpecdnfmlodmaaagreatdoorr", sum := "5d85f975e167eff8d7b718f7fcb341297b73d7ccc204391bf01b7effb26078a2", func := "pub-mailsack/laws.FnBehindListConfigResourcesResponse", spec := "fnBehindListConfigResourcesResponse", inPlace := ["internal/reflectlite.ValueOf", "internal/reflectlite.Swapper", "(internal/reflectlite.Value).Len"], unfollowed := true, recurses := true, named := ["encoding/binary.BigEndian", "pub-mailsack/pub/kmsg/inner/kbin.ErrNotEnoughData"], loops := true, apart := false, laid := [("pub-mailsack/pub/kmsg/inner/kbin.ErrNotEnoughData", laid_pub_mailsack_pub_kmsg_inner_kbin_ErrNotEnoughData)] }
def FnBehindListConfigResourcesResponseSaid : Prop := fnBehindListConfigResourcesResponseRow.holds Tryz.pinned (OpenSpec.ofChange fnBehindListConfigResourcesResponseSpec)

/-- ITS FALSE NEIGHBOUR: 'it returns false'. Refute it at one input. -/
def fnBehindListConfigResourcesResponseWrong : ChangeSpec := { name := "fnBehindListConfigResourcesResponse", fn := fun _ => fun
  | [d1, d2, d3] => { results := [.lit (.bool false)], args := [d1, d2, d3] }
  | _ => none }
def FnBehindListConfigResourcesResponseWrongFalsely : Prop := fnBehindListConfigResourcesResponseRow.holds Tryz.pinned (OpenSpec.ofChange fnBehindListConfigResourcesResponseWrong)

/- THE SECOND FORM. 'bulk': how many values and letters a reading holds, each counted each time it is reached (what is shared counts as often as it is met; a slice's spare places count too). A statement '..UptoSaid' is the law's where the arguments, and the package variables that the reading takes, are together of bulk at most 1048576: NARROWER than '..Said'. Prove '..Said' where nothing that the law and all that it calls make is longer than what came in: it says more and counts as full. Else prove '..UptoSaid'. A law counts once. -/
mutual
def uptoBulk {H : Type} : DataW H → Nat
  | .lit (.string bytes) => bytes.length + 1
  | .lit _ => 1
  | .nil => 1
  | .ptr d => uptoBulk d + 1
  | .slice elems spare => uptoBulkAll elems + uptoBulkAll spare + 1
  | .agg parts => uptoBulkAll parts + 1
  | .iface _ d => uptoBulk d + 1
  | .map entries => uptoBulkEntries entries + 1
  | .held _ => 1
def uptoBulkAll {H : Type} : List (DataW H) → Nat
  | [] => 0
  | d :: r => uptoBulk d + uptoBulkAll r
def uptoBulkEntries {H : Type} : List (Lit × DataW H) → Nat
  | [] => 0
  | x :: r => uptoBulkEntry x + uptoBulkEntries r
def uptoBulkEntry {H : Type} : Lit × DataW H → Nat
  | (.string bytes, d) => bytes.length + uptoBulk d + 1
  | (_, d) => uptoBulk d + 1
 end
def uptoSmall : (H : Type) → List (DataW H) → Bool := fun _ ds => decide (uptoBulkAll ds ≤ 1048576)
def OpenSpec.upto (s : _root_.Go.ChangeSpec) : _root_.Go.OpenSpec := { _root_.Go.OpenSpec.ofChange s with cond := some uptoSmall }

/-- 'laws.FnTellDescribeProducersResponse', WHERE WHAT IT READS IS OF BULK AT MOST 1048576: true; the input reads as it did. -/
def fnTellDescribeProducersResponseUptoRow : OpenClaim := { program := "ytpecdnfmlodmaaagreatdoorr", sum := "5d85f975e167eff8d7b718f7fcb341297b73d7ccc204391bf01b7effb26078a2", func := "pub-mailsack/laws.FnTellDescribeProducersResponse", spec := "fnTellDescribeProducersResponse", inPlace := ["internal/reflectlite.ValueOf", "internal/reflectlite.Swapper", "(internal/reflectlite.Value).Len"], unfollowed := true, recurses := true, named := ["encoding/binary.BigEndian", "pub-mailsack/pub/kmsg/inner/kbin.ErrNotEnoughData"], loops := true, apart := false, laid := [("pub-mailsack/pub/kmsg/inner/kbin.ErrNotEnoughData", laid_pub_mailsack_pub_kmsg_inner_kbin_ErrNotEnoughData)], narrowed := true }
def FnTellDescribeProducersResponseUptoSaid : Prop := fnTellDescribeProducersResponseUptoRow.holds Tryz.pinned (OpenSpec.upto fnTellDescribeProducersResponseSpec)

/-- 'laws.FnTellAlterClientQuotasRequest', WHERE WHAT IT READS IS OF BULK AT MOST 1048576: true; the input reads as it did. -/
def fnTellAlterClientQuotasRequestUptoRow : OpenClaim := { program := "ytpecdnfmlodmaaagreatdoorr", sum := "5d85f975e167eff8d7b718f7fcb341297b73d7ccc204391bf01b7effb26078a2", func := "pub-mailsack/laws.FnTellAlterClientQuotasRequest", spec := "fnTellAlterClientQuotasRequest", inPlace := ["math.Float64frombits", "internal/reflectlite.ValueOf", "internal/reflectlite.Swapper", "(internal/reflectlite.Value).Len", "math.Float64bits"], unfollowed := true, recurses := true, named := ["encoding/binary.BigEndian", "pub-mailsack/pub/kmsg/inner/kbin.ErrNotEnoughData"], loops := true, apart := false, laid := [("pub-mailsack/pub/kmsg/inner/kbin.ErrNotEnoughData", laid_pub_mailsack_pub_kmsg_inner_kbin_ErrNotEnoughData)], narrowed := true }
def FnTellAlterClientQuotasRequestUptoSaid : Prop := fnTellAlterClientQuotasRequestUptoRow.holds Tryz.pinned (OpenSpec.upto fnTellAlterClientQuotasRequestSpec)

/-- 'laws.FnTellDescribeClientQuotasResponse', WHERE WHAT IT READS IS OF BULK AT MOST 1048576: true; the input reads as it did. -/
def fnTellDescribeClientQuotasResponseUptoRow : OpenClaim := { program := "ytpecdnfmlodmaaagreatdoorr", sum := "5d85f975e167eff8d7b718f7fcb341297b73d7ccc204391bf01b7effb26078a2", func := "pub-mailsack/laws.FnTellDescribeClientQuotasResponse", spec := "fnTellDescribeClientQuotasResponse", inPlace := ["math.Float64frombits", "internal/reflectlite.ValueOf", "internal/reflectlite.Swapper", "(internal/reflectlite.Value).Len", "math.Float64bits"], unfollowed := true, recurses := true, named := ["encoding/binary.BigEndian", "pub-mailsack/pub/kmsg/inner/kbin.ErrNotEnoughData"], loops := true, apart := false, laid := [("pub-mailsack/pub/kmsg/inner/kbin.ErrNotEnoughData", laid_pub_mailsack_pub_kmsg_inner_kbin_ErrNotEnoughData)], narrowed := true }
def FnTellDescribeClientQuotasResponseUptoSaid : Prop := fnTellDescribeClientQuotasResponseUptoRow.holds Tryz.pinned (OpenSpec.upto fnTellDescribeClientQuotasResponseSpec)

/-- 'laws.FnTellOffsetFetchRequest', WHERE WHAT IT READS IS OF BULK AT MOST 1048576: true; the input reads as it did. -/
def fnTellOffsetFetchRequestUptoRow : OpenClaim := { program := "ytpecdnfmlodmaaagreatdoorr", sum := "5d85f975e167eff8d7b718f7fcb341297b73d7ccc204391bf01b7effb26078a2", func := "pub-mailsack/laws.FnTellOffsetFetchRequest", spec := "fnTellOffsetFetchRequest", inPlace := ["internal/reflectlite.ValueOf", "internal/reflectlite.Swapper", "(internal/reflectlite.Value).Len"], unfollowed := true, recurses := true, named := ["encoding/binary.BigEndian", "pub-mailsack/pub/kmsg/inner/kbin.ErrNotEnoughData"], loops := true, apart := false, laid := [("pub-mailsack/pub/kmsg/inner/kbin.ErrNotEnoughData", laid_pub_mailsack_pub_kmsg_inner_kbin_ErrNotEnoughData)], narrowed := true }
def FnTellOffsetFetchRequestUptoSaid : Prop := fnTellOffsetFetchRequestUptoRow.holds Tryz.pinned (OpenSpec.upto fnTellOffsetFetchRequestSpec)

/-- 'laws.FnTellDescribeTopicPartitionsResponse', WHERE WHAT IT READS IS OF BULK AT MOST 1048576: true; the input reads as it did. -/
def fnTellDescribeTopicPartitionsResponseUptoRow : OpenClaim := { program := "ytpecdnfmlodmaaagreatdoorr", sum := "5d85f975e167eff8d7b718f7fcb341297b73d7ccc204391bf01b7effb26078a2", func := "pub-mailsack/laws.FnTellDescribeTopicPartitionsResponse", spec := "fnTellDescribeTopicPartitionsResponse", inPlace := ["internal/reflectlite.ValueOf", "internal/reflectlite.Swapper", "(internal/reflectlite.Value).Len"], unfollowed := true, recurses := true, named := ["encoding/binary.BigEndian", "pub-mailsack/pub/kmsg/inner/kbin.ErrNotEnoughData"], loops := true, apart := false, laid := [("pub-mailsack/pub/kmsg/inner/kbin.ErrNotEnoughData", laid_pub_mailsack_pub_kmsg_inner_kbin_ErrNotEnoughData)], narrowed := true }
def FnTellDescribeTopicPartitionsResponseUptoSaid : Prop := fnTellDescribeTopicPartitionsResponseUptoRow.holds Tryz.pinned (OpenSpec.upto fnTellDescribeTopicPartitionsResponseSpec)

/-- 'laws.FnDefaultListOffsetsRequest', WHERE WHAT IT READS IS OF BULK AT MOST 1048576: true; the input reads as it did. -/
def fnDefaultListOffsetsRequestUptoRow : OpenClaim := { program := "ytpecdnfmlodmaaagreatdoorr", sum := "5d85f975e167eff8d7b718f7fcb341297b73d7ccc204391bf01b7effb26078a2", func := "pub-mailsack/laws.FnDefaultListOffsetsRequest", spec := "fnDefaultListOffsetsRequest", inPlace := ["internal/reflectlite.ValueOf", "internal/reflectlite.Swapper", "(internal/reflectlite.Value).Len"], unfollowed := true, recurses := true, named := ["encoding/binary.BigEndian", "pub-mailsack/pub/kmsg/inner/kbin.ErrNotEnoughData"], loops := true, apart := false, laid := [("pub-mailsack/pub/kmsg/inner/kbin.ErrNotEnoughData", laid_pub_mailsack_pub_kmsg_inner_kbin_ErrNotEnoughData)], narrowed := true }
def FnDefaultListOffsetsRequestUptoSaid : Prop := fnDefaultListOffsetsRequestUptoRow.holds Tryz.pinned (OpenSpec.upto fnDefaultListOffsetsRequestSpec)

/-- 'laws.FnDefaultJoinGroupResponse', WHERE WHAT IT READS IS OF BULK AT MOST 1048576: true; the input reads as it did. -/
def fnDefaultJoinGroupResponseUptoRow : OpenClaim := { program := "ytpecdnfmlodmaaagreatdoorr", sum := "5d85f975e167eff8d7b718f7fcb341297b73d7ccc204391bf01b7effb26078a2", func := "pub-mailsack/laws.FnDefaultJoinGroupResponse", spec := "fnDefaultJoinGroupResponse", inPlace := ["internal/reflectlite.ValueOf", "internal/reflectlite.Swapper", "(internal/reflectlite.Value).Len"], unfollowed := true, recurses := true, named := ["encoding/binary.BigEndian", "pub-mailsack/pub/kmsg/inner/kbin.ErrNotEnoughData"], loops := true, apart := false, laid := [("pub-mailsack/pub/kmsg/inner/kbin.ErrNotEnoughData", laid_pub_mailsack_pub_kmsg_inner_kbin_ErrNotEnoughData)], narrowed := true }
def FnDefaultJoinGroupResponseUptoSaid : Prop := fnDefaultJoinGroupResponseUptoRow.holds Tryz.pinned (OpenSpec.upto fnDefaultJoinGroupResponseSpec)

/-- 'laws.FnBehindListConfigResourcesResponse', WHERE WHAT IT READS IS OF BULK AT MOST 1048576: true; the input reads as it did. -/
def fnBehindListConfigResourcesResponseUptoRow : OpenClaim := { program := "ytpecdnfmlodmaaagreatdoorr", sum := "5d85f975e167eff8d7b718f7fcb341297b73d7ccc204391bf01b7effb26078a2", func := "pub-mailsack/laws.FnBehindListConfigResourcesResponse", spec := "fnBehindListConfigResourcesResponse", inPlace := ["internal/reflectlite.ValueOf", "internal/reflectlite.Swapper", "(internal/reflectlite.Value).Len"], unfollowed := true, recurses := true, named := ["encoding/binary.BigEndian", "pub-mailsack/pub/kmsg/inner/kbin.ErrNotEnoughData"], loops := true, apart := false, laid := [("pub-mailsack/pub/kmsg/inner/kbin.ErrNotEnoughData", laid_pub_mailsack_pub_kmsg_inner_kbin_ErrNotEnoughData)], narrowed := true }
def FnBehindListConfigResourcesResponseUptoSaid : Prop := fnBehindListConfigResourcesResponseUptoRow.holds Tryz.pinned (OpenSpec.upto fnBehindListConfigResourcesResponseSpec)

end Rows
end Go.Proofs.YtpecdnfmlodmaaaGreatDoorR
