/-
  DERIVED. GIVEN WITH THE SEED: THE CARDS: each row of YthkpmmjcmldjhaaGreatDoorRRRows.lean that lists a variable, with what it lists TIED to the program's text (the seventh form; the later family's looks); each row that meets fmt, with fmt's text TOLD by the authors' own Lean function (tested against real Go, not proved from fmt's source: count such statements apart). THE CARD IS WHAT COUNTS. Prove the row's statement (the work); the ties are given (YthkpmmjcmldjhaaGreatDoorRRTie.lean); close each card by the builder's one call (the guide's Derived/Test/ToyasCard.lean, 'card_holds'). Laid BY PROGRAM, IN A SANDBOX (cutbox-door.mjs). By AI agents, Wed Nov 11 2026. No macro, syntax, notation, axiom, sorry.
-/
import Derived.Test.YthkpmmjcmldjhaaGreatDoorRRRows
import GoSem.ClaimSeven
namespace Go.Proofs.YthkpmmjcmldjhaaGreatDoorRR
namespace Rows

/-- THE TIED CARD OF 'laws.FnBehindLeaveGroupRequest'. -/
def fnBehindLeaveGroupRequestCard : Claim7 := { stood := { row := fnBehindLeaveGroupRequestRow, standIns := [], harness := (true, "7d71a1f1c263b83e0297108f505bed2e080269a43f47da8edd0e68c8c5b576e8"), looks := false }, kinds := [], alts := [], laidByText := true, laidKinds := [.sentinel], laidTests := true, laidLooks := .later }
def FnBehindLeaveGroupRequestCardSaid : Prop := Claim7.holds Tryz.pinned (.plain (OpenSpec.ofChange fnBehindLeaveGroupRequestSpec)) fnBehindLeaveGroupRequestCard

/-- THE TIED CARD OF 'laws.FnBehindCreateDelegationTokenRequest'. -/
def fnBehindCreateDelegationTokenRequestCard : Claim7 := { stood := { row := fnBehindCreateDelegationTokenRequestRow, standIns := [], harness := (true, "7d71a1f1c263b83e0297108f505bed2e080269a43f47da8edd0e68c8c5b576e8"), looks := false }, kinds := [], alts := [], laidByText := true, laidKinds := [.sentinel], laidTests := true, laidLooks := .later }
def FnBehindCreateDelegationTokenRequestCardSaid : Prop := Claim7.holds Tryz.pinned (.plain (OpenSpec.ofChange fnBehindCreateDelegationTokenRequestSpec)) fnBehindCreateDelegationTokenRequestCard

/-- THE SECOND FORM's CARD OF 'laws.FnBehindLeaveGroupRequest'. -/
def fnBehindLeaveGroupRequestUptoCard : Claim7 := { stood := { row := fnBehindLeaveGroupRequestUptoRow, standIns := [], harness := (true, "7d71a1f1c263b83e0297108f505bed2e080269a43f47da8edd0e68c8c5b576e8"), looks := false }, kinds := [], alts := [], laidByText := true, laidKinds := [.sentinel], laidTests := true, laidLooks := .later }
def FnBehindLeaveGroupRequestUptoCardSaid : Prop := Claim7.holds Tryz.pinned (.plain (OpenSpec.upto fnBehindLeaveGroupRequestSpec)) fnBehindLeaveGroupRequestUptoCard

/-- THE SECOND FORM's CARD OF 'laws.FnBehindCreateDelegationTokenRequest'. -/
def fnBehindCreateDelegationTokenRequestUptoCard : Claim7 := { stood := { row := fnBehindCreateDelegationTokenRequestUptoRow, standIns := [], harness := (true, "7d71a1f1c263b83e0297108f505bed2e080269a43f47da8edd0e68c8c5b576e8"), looks := false }, kinds := [], alts := [], laidByText := true, laidKinds := [.sentinel], laidTests := true, laidLooks := .later }
def FnBehindCreateDelegationTokenRequestUptoCardSaid : Prop := Claim7.holds Tryz.pinned (.plain (OpenSpec.upto fnBehindCreateDelegationTokenRequestSpec)) fnBehindCreateDelegationTokenRequestUptoCard
end Rows
end Go.Proofs.YthkpmmjcmldjhaaGreatDoorRR
