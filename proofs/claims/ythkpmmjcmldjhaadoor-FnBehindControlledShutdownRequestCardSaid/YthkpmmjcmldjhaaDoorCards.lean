/-
  DERIVED. GIVEN WITH THE SEED: THE CARDS: each row of YthkpmmjcmldjhaaDoorRows.lean that lists a variable, with what it lists TIED to the program's text (the seventh form; the later family's looks); each row that meets fmt, with fmt's text TOLD by the authors' own Lean function (tested against real Go, not proved from fmt's source: count such statements apart). THE CARD IS WHAT COUNTS. Prove the row's statement (the work); the ties are given (YthkpmmjcmldjhaaDoorTie.lean); close each card by the builder's one call (the guide's Derived/Test/ToyasCard.lean, 'card_holds'). Laid BY PROGRAM, IN A SANDBOX (cutbox-door.mjs). By AI agents, Wed Nov 11 2026. No macro, syntax, notation, axiom, sorry.
-/
import Derived.Test.YthkpmmjcmldjhaaDoorRows
import GoSem.ClaimSeven
namespace Go.Proofs.YthkpmmjcmldjhaaDoor
namespace Rows

/-- THE TIED CARD OF 'laws.FnBehindControlledShutdownRequest'. -/
def fnBehindControlledShutdownRequestCard : Claim7 := { stood := { row := fnBehindControlledShutdownRequestRow, standIns := [], harness := (true, "dc651622ad63f49ede6d6c0b6f30725bd8a3b1a2d88d28c57f0c3c0a6f239fd7"), looks := false }, kinds := [], alts := [], laidByText := true, laidKinds := [.sentinel], laidTests := true, laidLooks := .later }
def FnBehindControlledShutdownRequestCardSaid : Prop := Claim7.holds Tryd.pinned (.plain (OpenSpec.ofChange fnBehindControlledShutdownRequestSpec)) fnBehindControlledShutdownRequestCard

/-- THE TIED CARD OF 'laws.FnUnsafeConnectMemberMetadata'. -/
def fnUnsafeConnectMemberMetadataCard : Claim7 := { stood := { row := fnUnsafeConnectMemberMetadataRow, standIns := [], harness := (true, "dc651622ad63f49ede6d6c0b6f30725bd8a3b1a2d88d28c57f0c3c0a6f239fd7"), looks := false }, kinds := [], alts := [], laidByText := true, laidKinds := [.sentinel], laidTests := true, laidLooks := .later }
def FnUnsafeConnectMemberMetadataCardSaid : Prop := Claim7.holds Tryd.pinned (.plain (OpenSpec.ofChange fnUnsafeConnectMemberMetadataSpec)) fnUnsafeConnectMemberMetadataCard

/-- THE SECOND FORM's CARD OF 'laws.FnBehindControlledShutdownRequest'. -/
def fnBehindControlledShutdownRequestUptoCard : Claim7 := { stood := { row := fnBehindControlledShutdownRequestUptoRow, standIns := [], harness := (true, "dc651622ad63f49ede6d6c0b6f30725bd8a3b1a2d88d28c57f0c3c0a6f239fd7"), looks := false }, kinds := [], alts := [], laidByText := true, laidKinds := [.sentinel], laidTests := true, laidLooks := .later }
def FnBehindControlledShutdownRequestUptoCardSaid : Prop := Claim7.holds Tryd.pinned (.plain (OpenSpec.upto fnBehindControlledShutdownRequestSpec)) fnBehindControlledShutdownRequestUptoCard

/-- THE SECOND FORM's CARD OF 'laws.FnUnsafeConnectMemberMetadata'. -/
def fnUnsafeConnectMemberMetadataUptoCard : Claim7 := { stood := { row := fnUnsafeConnectMemberMetadataUptoRow, standIns := [], harness := (true, "dc651622ad63f49ede6d6c0b6f30725bd8a3b1a2d88d28c57f0c3c0a6f239fd7"), looks := false }, kinds := [], alts := [], laidByText := true, laidKinds := [.sentinel], laidTests := true, laidLooks := .later }
def FnUnsafeConnectMemberMetadataUptoCardSaid : Prop := Claim7.holds Tryd.pinned (.plain (OpenSpec.upto fnUnsafeConnectMemberMetadataSpec)) fnUnsafeConnectMemberMetadataUptoCard
end Rows
end Go.Proofs.YthkpmmjcmldjhaaDoor
