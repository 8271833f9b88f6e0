/-
  The row's tree: what reads as a value of type spec.Tree is a tree in memory, of no more bulk.
-/
import Derived.Test.YtcldbjehliladaaDoorRows
import Derived.ProofKit
import Derived.ChangeSlices
import Derived.ReadAgain
import Derived.OpenShut
import Derived.Test.YtcldbjehliladaaDoorPWl
import Derived.Test.YtcldbjehliladaaDoorPWt
set_option linter.unusedSimpArgs false
set_option linter.unusedVariables false
namespace Go.Proofs.YtcldbjehliladaaDoor
open Go Go.RowKit Go.ChangeShapes Go.WideShapes
theorem TreeI.ok {w : World} {c : Nat -> Value} {t : Tr} (h : TreeI w c t) : TOk t := by
 induction h with
 | mk h0 hn h1 h2 h3 h3' h4 h4' ih =>
  refine .mk ?_ (fun x hx => ?_) (fun p hp => ?_)
  ·simpa [fits, IntKind.min, IntKind.max, IntKind.signed, IntKind.bits] using hn
  ·obtain ⟨i, hi, rfl⟩ := List.getElem_of_mem hx
   exact ih i hi
  ·obtain ⟨i, hi, rfl⟩ := List.getElem_of_mem hp
   have := (h4' i hi).2.1
   simp [fits, IntKind.min, IntKind.max, IntKind.signed, IntKind.bits] at this
   omega
end Go.Proofs.YtcldbjehliladaaDoor
