/-
  A field that a function of its own tells; a part that may be none; a part within. No program in it.
-/
import Derived.Test.YthkpmmjcmldjhaaGreatDoorRRPTelL
import Derived.Test.YthkpmmjcmldjhaaGreatDoorRRPRp
set_option linter.unusedSimpArgs false
set_option linter.unusedVariables false
namespace Go.Proofs.YthkpmmjcmldjhaaGreatDoorRR
open Go Go.RowKit
def Ty.leafE : Ty -> Bool
 | .pstruct _ _ _ => true
 | t => t.leaf
end Go.Proofs.YthkpmmjcmldjhaaGreatDoorRR
