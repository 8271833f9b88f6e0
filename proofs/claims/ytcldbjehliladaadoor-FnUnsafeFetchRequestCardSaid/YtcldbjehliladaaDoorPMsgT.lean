/-
  The reader's type.
-/
import Derived.Test.YtcldbjehliladaaDoorPFrm
set_option linter.unusedSimpArgs false
set_option linter.unusedVariables false
namespace Go.Proofs.YtcldbjehliladaaDoor
open Go Go.RowKit
theorem rdT : RdT Tryd.prog 106 where
 built := by
  intro v hv
  rw [built_of (places := [(0, 1), (1, 1)]) (z := .agg #[.slice none 0 0, .bool false]) (by kernel_rfl)]
  show Instr.fill _ #[.slice none 0 0, .bool false] [(0, v)] = _
  simp [Instr.fill, hv]
 zero := ⟨.agg #[.slice none 0 0, .bool false], by kernel_rfl, rfl⟩
 size := by kernel_rfl
end Go.Proofs.YtcldbjehliladaaDoor
