/-
  Tags: a map of numbers to octets; a tag is set. No program in it.
-/
import Derived.MapKept
import Derived.Carry
import Derived.Test.YtcldbjehliladaaDoorPRl
set_option linter.unusedSimpArgs false
set_option linter.unusedVariables false
namespace Go.Proofs.YtcldbjehliladaaDoor
open Go Go.RowKit
/-- a tag is set, or set anew: by rising numbers -/
def setTag : Tags -> Int -> List UInt8 -> Tags
 | [], k, v => [(k, v)]
 | q :: r, k, v => if k < q.1 then (k, v) :: q :: r else if k = q.1 then (k, v) :: r else q :: setTag r k v
section
variable {w w' : World} {F : Nat -> Prop}
/-- the map in block r -/
def MapAt (w : World) (F : Nat -> Prop) (r : Nat) (u : Tags) : Prop := ∃ es clock, w.heap[r]? = some (.map es clock) /\ u.Pairwise (fun p q => p.1 < q.1) /\ u.length <= 4294967295 /\ (∀ p ∈ u, 0 <= p.1 /\ p.1 < 4294967296 /\ p.2.length <= 4294967295) /\
  ∃ kb : Tags, kb.Perm u /\ kb.length = es.size /\ (es.toList.map (·.born)).Nodup /\
   ∀ i (h : i < kb.length), ∃ e nil, es[i]? = some e /\ e.key = .int .u32 (kb[i]).1 /\ Oct w F e.val (kb[i]).2 nil /\ e.born < clock
end
end Go.Proofs.YtcldbjehliladaaDoor
