/-
  How much is written of a tree: no more than its bulk, so many times. No program in it.
-/
import Derived.Test.YtcldbjehliladaaDoorPWc
set_option linter.unusedSimpArgs false
set_option linter.unusedVariables false
namespace Go.Proofs.YtcldbjehliladaaDoor
open Go Go.RowKit
def bulkU : Tags -> Nat
 | [] => 0
 | p :: r => p.2.length + 3 + bulkU r
mutual
/-- how much a tree holds -/
def Tr.bulk : Tr -> Nat
 | .mk _ s _ l u => s.length + bulkL l + bulkU u + 6
def bulkL : List Tr -> Nat
 | [] => 0
 | t :: r => t.bulk + bulkL r
end
mutual
/-- how much is written of a field of which nothing is said -/
def FD.z : FD -> Nat
 | .mk kind _ _ _ _ _ _ sub => if kind = 10 then zL sub + 12 else 26
def zL : List FD -> Nat
 | [] => 0
 | f :: r => f.z + zL r
end
mutual
/-- how many times a tree's bulk is written of a field -/
def FD.a : FD -> Nat
 | .mk kind _ _ _ _ _ of sub => if kind = 10 then aL sub + zL sub + 20 else if kind = 11 then aL sub + zL sub + 30 else 26
def aL : List FD -> Nat
 | [] => 0
 | f :: r => max f.a (aL r)
end
end Go.Proofs.YtcldbjehliladaaDoor
