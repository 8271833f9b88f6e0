/-
  DERIVED. GIVEN WITH THE SEED: THE CARDS: each row of YtcldbjehliladaaDoorRows.lean that lists a variable, with what it lists TIED to the program's text (the seventh form; the later family's looks); each row that meets fmt, with fmt's text TOLD by the authors' own Lean function (tested against real Go, not proved from fmt's source: count such statements apart). THE CARD IS WHAT COUNTS. Prove the row's statement (the work); the ties are given (YtcldbjehliladaaDoorTie.lean); close each card by the builder's one call (the guide's Derived/Test/ToyasCard.lean, 'card_holds'). Laid BY PROGRAM, IN A SANDBOX (cutbox-door.mjs). By AI agents, Wed Nov 11 2026. No macro, syntax, notation, axiom, sorry.
-/
import Derived.Test.YtcldbjehliladaaDoorRows
import GoSem.ClaimSeven
namespace Go.Proofs.YtcldbjehliladaaDoor
namespace Rows

/-- THE TIED CARD OF 'laws.FnUnsafeConnectMemberMetadata'. -/
def fnUnsafeConnectMemberMetadataCard : Claim7 := { stood := { row := fnUnsafeConnectMemberMetadataRow, standIns := [], harness := (true, "65066842014bae31d6b6c190128d7e7f4c9cc7d8d5d5c446e056b7bd27a98bda"), looks := false }, kinds := [], alts := [], laidByText := true, laidKinds := [.sentinel], laidTests := true, laidLooks := .later }
def FnUnsafeConnectMemberMetadataCardSaid : Prop := Claim7.holds Tryd.pinned (.plain (OpenSpec.ofChange fnUnsafeConnectMemberMetadataSpec)) fnUnsafeConnectMemberMetadataCard

/-- THE TIED CARD OF 'laws.FnUnsafeBrokerHeartbeatRequest'. -/
def fnUnsafeBrokerHeartbeatRequestCard : Claim7 := { stood := { row := fnUnsafeBrokerHeartbeatRequestRow, standIns := [], harness := (true, "65066842014bae31d6b6c190128d7e7f4c9cc7d8d5d5c446e056b7bd27a98bda"), looks := false }, kinds := [], alts := [], laidByText := true, laidKinds := [.sentinel], laidTests := true, laidLooks := .later }
def FnUnsafeBrokerHeartbeatRequestCardSaid : Prop := Claim7.holds Tryd.pinned (.plain (OpenSpec.ofChange fnUnsafeBrokerHeartbeatRequestSpec)) fnUnsafeBrokerHeartbeatRequestCard

/-- THE TIED CARD OF 'laws.FnUnsafeFetchRequest'. -/
def fnUnsafeFetchRequestCard : Claim7 := { stood := { row := fnUnsafeFetchRequestRow, standIns := [], harness := (true, "65066842014bae31d6b6c190128d7e7f4c9cc7d8d5d5c446e056b7bd27a98bda"), looks := false }, kinds := [], alts := [], laidByText := true, laidKinds := [.sentinel], laidTests := true, laidLooks := .later }
def FnUnsafeFetchRequestCardSaid : Prop := Claim7.holds Tryd.pinned (.plain (OpenSpec.ofChange fnUnsafeFetchRequestSpec)) fnUnsafeFetchRequestCard

/-- THE SECOND FORM's CARD OF 'laws.FnUnsafeConnectMemberMetadata'. -/
def fnUnsafeConnectMemberMetadataUptoCard : Claim7 := { stood := { row := fnUnsafeConnectMemberMetadataUptoRow, standIns := [], harness := (true, "65066842014bae31d6b6c190128d7e7f4c9cc7d8d5d5c446e056b7bd27a98bda"), looks := false }, kinds := [], alts := [], laidByText := true, laidKinds := [.sentinel], laidTests := true, laidLooks := .later }
def FnUnsafeConnectMemberMetadataUptoCardSaid : Prop := Claim7.holds Tryd.pinned (.plain (OpenSpec.upto fnUnsafeConnectMemberMetadataSpec)) fnUnsafeConnectMemberMetadataUptoCard

/-- THE SECOND FORM's CARD OF 'laws.FnUnsafeBrokerHeartbeatRequest'. -/
def fnUnsafeBrokerHeartbeatRequestUptoCard : Claim7 := { stood := { row := fnUnsafeBrokerHeartbeatRequestUptoRow, standIns := [], harness := (true, "65066842014bae31d6b6c190128d7e7f4c9cc7d8d5d5c446e056b7bd27a98bda"), looks := false }, kinds := [], alts := [], laidByText := true, laidKinds := [.sentinel], laidTests := true, laidLooks := .later }
def FnUnsafeBrokerHeartbeatRequestUptoCardSaid : Prop := Claim7.holds Tryd.pinned (.plain (OpenSpec.upto fnUnsafeBrokerHeartbeatRequestSpec)) fnUnsafeBrokerHeartbeatRequestUptoCard

/-- THE SECOND FORM's CARD OF 'laws.FnUnsafeFetchRequest'. -/
def fnUnsafeFetchRequestUptoCard : Claim7 := { stood := { row := fnUnsafeFetchRequestUptoRow, standIns := [], harness := (true, "65066842014bae31d6b6c190128d7e7f4c9cc7d8d5d5c446e056b7bd27a98bda"), looks := false }, kinds := [], alts := [], laidByText := true, laidKinds := [.sentinel], laidTests := true, laidLooks := .later }
def FnUnsafeFetchRequestUptoCardSaid : Prop := Claim7.holds Tryd.pinned (.plain (OpenSpec.upto fnUnsafeFetchRequestSpec)) fnUnsafeFetchRequestUptoCard
end Rows
end Go.Proofs.YtcldbjehliladaaDoor
