/-
  Test: reading one message.
-/
import Derived.Test.YtboohnhpcjagnaaDoorKFrm
set_option linter.unusedSimpArgs false
set_option linter.unusedVariables false
namespace Go.Proofs.YtboohnhpcjagnaaDoor
open Go Go.RowKit

theorem rdT : RdT Tryd.prog 140 where
  built := by
    intro v hv
    rw [built_of (places := [(0, 1), (1, 1)]) (z := .agg #[.slice none 0 0, .bool false]) (by kernel_rfl)]
    show Instr.fill _ #[.slice none 0 0, .bool false] [(0, v)] = _
    simp [Instr.fill, hv]
  zero := ⟨.agg #[.slice none 0 0, .bool false], by kernel_rfl, rfl⟩
  size := by kernel_rfl

def sSASL : St := ⟨9, .cons 0 (.int .i16) (.cons 1 .str .nil), none, 2⟩
theorem dSASL : DfC Tryd.prog 108 sSASL id := dfc_id fun p w => by
  go_enter Tryd.func108, Tryd.ntmps108
  go_wp2
  exact ⟨rfl, .tuple #[], by simp [results, Tryd.results108], ⟨_, rfl⟩, rfl⟩
set_option maxRecDepth 100000 in
theorem readSASL : ∃ ft, ReadC Tryd.prog 109 sSASL (fun _ => false) ft := by
  apply Exists.intro
  apply read_plain (m := 11) (N := 29) (hf := Tryd.func109) (hN := rfl) (hres := rfl) (hR := rdT) (h16 := by kernel_rfl) (hver := by kernel_rfl) (hlay := rfl) (hsz := rfl) (hs := rfl) (hm := by decide) (hmN := by decide)
    (hbd := by kernel_rfl) (hd := dSASL) (hd0 := fun _ _ h => h) (hbody := rfl)
  apply whole_seq
  · apply blk_seq
    · apply blk_nop; rfl
    · apply blk_put (i := 1)
      · apply get_uns
        · apply get_call
          · exact rc_UnsafeString
          · kernel_rfl
          · rfl
        · apply get_call
          · exact rc_String
          · kernel_rfl
          · rfl
        · rfl
      · rfl
      · rfl
      · kernel_rfl
      · kernel_rfl
      · rfl
    · decide
  · apply whole_end
    · exact rd_Complete
    · kernel_rfl
    · rfl
  · rfl
end Go.Proofs.YtboohnhpcjagnaaDoor
