/-
  What package spec tells of trees: a value that is no part is told as it was written, or as it is by default.
-/
import Derived.Test.YtcldbjehliladaaDoorPWu
set_option linter.unusedSimpArgs false
set_option linter.unusedVariables false
namespace Go.Proofs.YtcldbjehliladaaDoor
open Go Go.RowKit
theorem OctI.s {w : World} {v : Value} {s : List UInt8} (h : OctI w v s) : OctS w v s := by
 rcases h with ⟨rfl, ao, cap, h⟩ | ⟨sb, off, cap, c, t, fr, h1, h2, h3, h4, h5⟩
 ·exact ⟨ao, cap, h, by simp, fun h => by simp at h⟩
 ·exact ⟨_, cap, h1, by omega, fun _ => ⟨sb, off, c, t, fr, rfl, h4, h5⟩⟩
end Go.Proofs.YtcldbjehliladaaDoor
