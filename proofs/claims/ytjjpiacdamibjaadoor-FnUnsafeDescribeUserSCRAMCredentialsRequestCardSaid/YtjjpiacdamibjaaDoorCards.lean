/-
  DERIVED. GIVEN WITH THE SEED: THE CARDS: each row of YtjjpiacdamibjaaDoorRows.lean that lists a variable, with what it lists TIED to the program's text (the seventh form; the later family's looks); each row that meets fmt, with fmt's text TOLD by the authors' own Lean function (tested against real Go, not proved from fmt's source: count such statements apart). THE CARD IS WHAT COUNTS. Prove the row's statement (the work); the ties are given (YtjjpiacdamibjaaDoorTie.lean); close each card by the builder's one call (the guide's Derived/Test/ToyasCard.lean, 'card_holds'). Laid BY PROGRAM, IN A SANDBOX (cutbox-door.mjs). By AI agents, Wed Nov 11 2026. No macro, syntax, notation, axiom, sorry.
-/
import Derived.Test.YtjjpiacdamibjaaDoorRows
import GoSem.ClaimSeven
namespace Go.Proofs.YtjjpiacdamibjaaDoor
namespace Rows

/-- THE TIED CARD OF 'laws.FnUnsafeDeleteShareGroupOffsetsRequest'. -/
def fnUnsafeDeleteShareGroupOffsetsRequestCard : Claim7 := { stood := { row := fnUnsafeDeleteShareGroupOffsetsRequestRow, standIns := [], harness := (true, "24334cf1e019fe24beb415ea7266b593ef79f8568079ac0b6f1fc4238c6e7580"), looks := false }, kinds := [], alts := [], laidByText := true, laidKinds := [.sentinel], laidTests := true, laidLooks := .later }
def FnUnsafeDeleteShareGroupOffsetsRequestCardSaid : Prop := Claim7.holds Tryd.pinned (.plain (OpenSpec.ofChange fnUnsafeDeleteShareGroupOffsetsRequestSpec)) fnUnsafeDeleteShareGroupOffsetsRequestCard

/-- THE TIED CARD OF 'laws.FnUnsafeDescribeUserSCRAMCredentialsRequest'. -/
def fnUnsafeDescribeUserSCRAMCredentialsRequestCard : Claim7 := { stood := { row := fnUnsafeDescribeUserSCRAMCredentialsRequestRow, standIns := [], harness := (true, "24334cf1e019fe24beb415ea7266b593ef79f8568079ac0b6f1fc4238c6e7580"), looks := false }, kinds := [], alts := [], laidByText := true, laidKinds := [.sentinel], laidTests := true, laidLooks := .later }
def FnUnsafeDescribeUserSCRAMCredentialsRequestCardSaid : Prop := Claim7.holds Tryd.pinned (.plain (OpenSpec.ofChange fnUnsafeDescribeUserSCRAMCredentialsRequestSpec)) fnUnsafeDescribeUserSCRAMCredentialsRequestCard

/-- THE SECOND FORM's CARD OF 'laws.FnUnsafeDeleteShareGroupOffsetsRequest'. -/
def fnUnsafeDeleteShareGroupOffsetsRequestUptoCard : Claim7 := { stood := { row := fnUnsafeDeleteShareGroupOffsetsRequestUptoRow, standIns := [], harness := (true, "24334cf1e019fe24beb415ea7266b593ef79f8568079ac0b6f1fc4238c6e7580"), looks := false }, kinds := [], alts := [], laidByText := true, laidKinds := [.sentinel], laidTests := true, laidLooks := .later }
def FnUnsafeDeleteShareGroupOffsetsRequestUptoCardSaid : Prop := Claim7.holds Tryd.pinned (.plain (OpenSpec.upto fnUnsafeDeleteShareGroupOffsetsRequestSpec)) fnUnsafeDeleteShareGroupOffsetsRequestUptoCard

/-- THE SECOND FORM's CARD OF 'laws.FnUnsafeDescribeUserSCRAMCredentialsRequest'. -/
def fnUnsafeDescribeUserSCRAMCredentialsRequestUptoCard : Claim7 := { stood := { row := fnUnsafeDescribeUserSCRAMCredentialsRequestUptoRow, standIns := [], harness := (true, "24334cf1e019fe24beb415ea7266b593ef79f8568079ac0b6f1fc4238c6e7580"), looks := false }, kinds := [], alts := [], laidByText := true, laidKinds := [.sentinel], laidTests := true, laidLooks := .later }
def FnUnsafeDescribeUserSCRAMCredentialsRequestUptoCardSaid : Prop := Claim7.holds Tryd.pinned (.plain (OpenSpec.upto fnUnsafeDescribeUserSCRAMCredentialsRequestSpec)) fnUnsafeDescribeUserSCRAMCredentialsRequestUptoCard
end Rows
end Go.Proofs.YtjjpiacdamibjaaDoor
