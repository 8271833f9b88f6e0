/-
  DERIVED. GIVEN WITH THE SEED: THE CARDS: each row of YtpecdnfmlodmaaaGreatDoorRRows.lean that lists a variable, with what it lists TIED to the program's text (the seventh form; the later family's looks); each row that meets fmt, with fmt's text TOLD by the authors' own Lean function (tested against real Go, not proved from fmt's source: count such statements apart). THE CARD IS WHAT COUNTS. Prove the row's statement (the work); the ties are given (YtpecdnfmlodmaaaGreatDoorRTie.lean); close each card by the builder's one call (the guide's Derived/Test/ToyasCard.lean, 'card_holds'). Laid BY PROGRAM, IN A SANDBOX (cutbox-door.mjs). By AI agents, Wed Nov 11 2026. No macro, syntax, notation, axiom, sorry.
-/
import Derived.Test.YtpecdnfmlodmaaaGreatDoorRRows
import GoSem.ClaimSeven
namespace Go.Proofs.YtpecdnfmlodmaaaGreatDoorR
namespace Rows

/-- THE TIED CARD OF 'laws.FnTellDescribeProducersResponse'. -/
def fnTellDescribeProducersResponseCard : Claim7 := { stood := { row := fnTellDescribeProducersResponseRow, standIns := [], harness := (true, "dd6c2fb689d6db987d27446b827cbff5c53a3d839e34fa05fd6fcf7a6155e302"), looks := false }, kinds := [], alts := [], laidByText := true, laidKinds := [.sentinel], laidTests := true, laidLooks := .later }
def FnTellDescribeProducersResponseCardSaid : Prop := Claim7.holds Tryz.pinned (.plain (OpenSpec.ofChange fnTellDescribeProducersResponseSpec)) fnTellDescribeProducersResponseCard

/-- THE TIED CARD OF 'laws.FnTellAlterClientQuotasRequest'. -/
def fnTellAlterClientQuotasRequestCard : Claim7 := { stood := { row := fnTellAlterClientQuotasRequestRow, standIns := [], harness := (true, "dd6c2fb689d6db987d27446b827cbff5c53a3d839e34fa05fd6fcf7a6155e302"), looks := false }, kinds := [], alts := [], laidByText := true, laidKinds := [.sentinel], laidTests := true, laidLooks := .later }
def FnTellAlterClientQuotasRequestCardSaid : Prop := Claim7.holds Tryz.pinned (.plain (OpenSpec.ofChange fnTellAlterClientQuotasRequestSpec)) fnTellAlterClientQuotasRequestCard

/-- THE TIED CARD OF 'laws.FnTellDescribeClientQuotasResponse'. -/
def fnTellDescribeClientQuotasResponseCard : Claim7 := { stood := { row := fnTellDescribeClientQuotasResponseRow, standIns := [], harness := (true, "dd6c2fb689d6db987d27446b827cbff5c53a3d839e34fa05fd6fcf7a6155e302"), looks := false }, kinds := [], alts := [], laidByText := true, laidKinds := [.sentinel], laidTests := true, laidLooks := .later }
def FnTellDescribeClientQuotasResponseCardSaid : Prop := Claim7.holds Tryz.pinned (.plain (OpenSpec.ofChange fnTellDescribeClientQuotasResponseSpec)) fnTellDescribeClientQuotasResponseCard

/-- THE TIED CARD OF 'laws.FnTellOffsetFetchRequest'. -/
def fnTellOffsetFetchRequestCard : Claim7 := { stood := { row := fnTellOffsetFetchRequestRow, standIns := [], harness := (true, "dd6c2fb689d6db987d27446b827cbff5c53a3d839e34fa05fd6fcf7a6155e302"), looks := false }, kinds := [], alts := [], laidByText := true, laidKinds := [.sentinel], laidTests := true, laidLooks := .later }
def FnTellOffsetFetchRequestCardSaid : Prop := Claim7.holds Tryz.pinned (.plain (OpenSpec.ofChange fnTellOffsetFetchRequestSpec)) fnTellOffsetFetchRequestCard

/-- THE TIED CARD OF 'laws.FnTellDescribeTopicPartitionsResponse'. -/
def fnTellDescribeTopicPartitionsResponseCard : Claim7 := { stood := { row := fnTellDescribeTopicPartitionsResponseRow, standIns := [], harness := (true, "dd6c2fb689d6db987d27446b827cbff5c53a3d839e34fa05fd6fcf7a6155e302"), looks := false }, kinds := [], alts := [], laidByText := true, laidKinds := [.sentinel], laidTests := true, laidLooks := .later }
def FnTellDescribeTopicPartitionsResponseCardSaid : Prop := Claim7.holds Tryz.pinned (.plain (OpenSpec.ofChange fnTellDescribeTopicPartitionsResponseSpec)) fnTellDescribeTopicPartitionsResponseCard

/-- THE TIED CARD OF 'laws.FnDefaultListOffsetsRequest'. -/
def fnDefaultListOffsetsRequestCard : Claim7 := { stood := { row := fnDefaultListOffsetsRequestRow, standIns := [], harness := (true, "dd6c2fb689d6db987d27446b827cbff5c53a3d839e34fa05fd6fcf7a6155e302"), looks := false }, kinds := [], alts := [], laidByText := true, laidKinds := [.sentinel], laidTests := true, laidLooks := .later }
def FnDefaultListOffsetsRequestCardSaid : Prop := Claim7.holds Tryz.pinned (.plain (OpenSpec.ofChange fnDefaultListOffsetsRequestSpec)) fnDefaultListOffsetsRequestCard

/-- THE TIED CARD OF 'laws.FnDefaultJoinGroupResponse'. -/
def fnDefaultJoinGroupResponseCard : Claim7 := { stood := { row := fnDefaultJoinGroupResponseRow, standIns := [], harness := (true, "dd6c2fb689d6db987d27446b827cbff5c53a3d839e34fa05fd6fcf7a6155e302"), looks := false }, kinds := [], alts := [], laidByText := true, laidKinds := [.sentinel], laidTests := true, laidLooks := .later }
def FnDefaultJoinGroupResponseCardSaid : Prop := Claim7.holds Tryz.pinned (.plain (OpenSpec.ofChange fnDefaultJoinGroupResponseSpec)) fnDefaultJoinGroupResponseCard

/-- THE TIED CARD OF 'laws.FnBehindListConfigResourcesResponse'. -/
def fnBehindListConfigResourcesResponseCard : Claim7 := { stood := { row := fnBehindListConfigResourcesResponseRow, standIns := [], harness := (true, "dd6c2fb689d6db987d27446b827cbff5c53a3d839e34fa05fd6fcf7a6155e302"), looks := false }, kinds := [], alts := [], laidByText := true, laidKinds := [.sentinel], laidTests := true, laidLooks := .later }
def FnBehindListConfigResourcesResponseCardSaid : Prop := Claim7.holds Tryz.pinned (.plain (OpenSpec.ofChange fnBehindListConfigResourcesResponseSpec)) fnBehindListConfigResourcesResponseCard

/-- THE SECOND FORM's CARD OF 'laws.FnTellDescribeProducersResponse'. -/
def fnTellDescribeProducersResponseUptoCard : Claim7 := { stood := { row := fnTellDescribeProducersResponseUptoRow, standIns := [], harness := (true, "dd6c2fb689d6db987d27446b827cbff5c53a3d839e34fa05fd6fcf7a6155e302"), looks := false }, kinds := [], alts := [], laidByText := true, laidKinds := [.sentinel], laidTests := true, laidLooks := .later }
def FnTellDescribeProducersResponseUptoCardSaid : Prop := Claim7.holds Tryz.pinned (.plain (OpenSpec.upto fnTellDescribeProducersResponseSpec)) fnTellDescribeProducersResponseUptoCard

/-- THE SECOND FORM's CARD OF 'laws.FnTellAlterClientQuotasRequest'. -/
def fnTellAlterClientQuotasRequestUptoCard : Claim7 := { stood := { row := fnTellAlterClientQuotasRequestUptoRow, standIns := [], harness := (true, "dd6c2fb689d6db987d27446b827cbff5c53a3d839e34fa05fd6fcf7a6155e302"), looks := false }, kinds := [], alts := [], laidByText := true, laidKinds := [.sentinel], laidTests := true, laidLooks := .later }
def FnTellAlterClientQuotasRequestUptoCardSaid : Prop := Claim7.holds Tryz.pinned (.plain (OpenSpec.upto fnTellAlterClientQuotasRequestSpec)) fnTellAlterClientQuotasRequestUptoCard

/-- THE SECOND FORM's CARD OF 'laws.FnTellDescribeClientQuotasResponse'. -/
def fnTellDescribeClientQuotasResponseUptoCard : Claim7 := { stood := { row := fnTellDescribeClientQuotasResponseUptoRow, standIns := [], harness := (true, "dd6c2fb689d6db987d27446b827cbff5c53a3d839e34fa05fd6fcf7a6155e302"), looks := false }, kinds := [], alts := [], laidByText := true, laidKinds := [.sentinel], laidTests := true, laidLooks := .later }
def FnTellDescribeClientQuotasResponseUptoCardSaid : Prop := Claim7.holds Tryz.pinned (.plain (OpenSpec.upto fnTellDescribeClientQuotasResponseSpec)) fnTellDescribeClientQuotasResponseUptoCard

/-- THE SECOND FORM's CARD OF 'laws.FnTellOffsetFetchRequest'. -/
def fnTellOffsetFetchRequestUptoCard : Claim7 := { stood := { row := fnTellOffsetFetchRequestUptoRow, standIns := [], harness := (true, "dd6c2fb689d6db987d27446b827cbff5c53a3d839e34fa05fd6fcf7a6155e302"), looks := false }, kinds := [], alts := [], laidByText := true, laidKinds := [.sentinel], laidTests := true, laidLooks := .later }
def FnTellOffsetFetchRequestUptoCardSaid : Prop := Claim7.holds Tryz.pinned (.plain (OpenSpec.upto fnTellOffsetFetchRequestSpec)) fnTellOffsetFetchRequestUptoCard

/-- THE SECOND FORM's CARD OF 'laws.FnTellDescribeTopicPartitionsResponse'. -/
def fnTellDescribeTopicPartitionsResponseUptoCard : Claim7 := { stood := { row := fnTellDescribeTopicPartitionsResponseUptoRow, standIns := [], harness := (true, "dd6c2fb689d6db987d27446b827cbff5c53a3d839e34fa05fd6fcf7a6155e302"), looks := false }, kinds := [], alts := [], laidByText := true, laidKinds := [.sentinel], laidTests := true, laidLooks := .later }
def FnTellDescribeTopicPartitionsResponseUptoCardSaid : Prop := Claim7.holds Tryz.pinned (.plain (OpenSpec.upto fnTellDescribeTopicPartitionsResponseSpec)) fnTellDescribeTopicPartitionsResponseUptoCard

/-- THE SECOND FORM's CARD OF 'laws.FnDefaultListOffsetsRequest'. -/
def fnDefaultListOffsetsRequestUptoCard : Claim7 := { stood := { row := fnDefaultListOffsetsRequestUptoRow, standIns := [], harness := (true, "dd6c2fb689d6db987d27446b827cbff5c53a3d839e34fa05fd6fcf7a6155e302"), looks := false }, kinds := [], alts := [], laidByText := true, laidKinds := [.sentinel], laidTests := true, laidLooks := .later }
def FnDefaultListOffsetsRequestUptoCardSaid : Prop := Claim7.holds Tryz.pinned (.plain (OpenSpec.upto fnDefaultListOffsetsRequestSpec)) fnDefaultListOffsetsRequestUptoCard

/-- THE SECOND FORM's CARD OF 'laws.FnDefaultJoinGroupResponse'. -/
def fnDefaultJoinGroupResponseUptoCard : Claim7 := { stood := { row := fnDefaultJoinGroupResponseUptoRow, standIns := [], harness := (true, "dd6c2fb689d6db987d27446b827cbff5c53a3d839e34fa05fd6fcf7a6155e302"), looks := false }, kinds := [], alts := [], laidByText := true, laidKinds := [.sentinel], laidTests := true, laidLooks := .later }
def FnDefaultJoinGroupResponseUptoCardSaid : Prop := Claim7.holds Tryz.pinned (.plain (OpenSpec.upto fnDefaultJoinGroupResponseSpec)) fnDefaultJoinGroupResponseUptoCard

/-- THE SECOND FORM's CARD OF 'laws.FnBehindListConfigResourcesResponse'. -/
def fnBehindListConfigResourcesResponseUptoCard : Claim7 := { stood := { row := fnBehindListConfigResourcesResponseUptoRow, standIns := [], harness := (true, "dd6c2fb689d6db987d27446b827cbff5c53a3d839e34fa05fd6fcf7a6155e302"), looks := false }, kinds := [], alts := [], laidByText := true, laidKinds := [.sentinel], laidTests := true, laidLooks := .later }
def FnBehindListConfigResourcesResponseUptoCardSaid : Prop := Claim7.holds Tryz.pinned (.plain (OpenSpec.upto fnBehindListConfigResourcesResponseSpec)) fnBehindListConfigResourcesResponseUptoCard
end Rows
end Go.Proofs.YtpecdnfmlodmaaaGreatDoorR
