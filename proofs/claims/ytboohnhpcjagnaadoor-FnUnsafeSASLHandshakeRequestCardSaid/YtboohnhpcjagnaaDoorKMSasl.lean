/-
  SASLHandshakeRequest: its doors.
-/
import Derived.Test.YtboohnhpcjagnaaDoorKMsgT
import Derived.Test.YtboohnhpcjagnaaDoorKDoorB
set_option linter.unusedSimpArgs false
set_option linter.unusedVariables false
namespace Go.Proofs.YtboohnhpcjagnaaDoor
open Go Go.RowKit

theorem tellT : TellT Tryd.prog 27 24 where
  ord := rfl
  f3 := by kernel_rfl
  one := by kernel_rfl
  elem := by kernel_rfl
  size := by kernel_rfl
  many := by kernel_rfl
  zero := by kernel_rfl
  parts := by kernel_rfl

set_option maxRecDepth 100000 in
theorem readSASL' : ∃ ft, ReadC Tryd.prog 109 sSASL (fun _ => false) ft ∧ ∀ ver fl v s, ft ver fl v s ≠ .stuck := by
  apply Exists.intro
  constructor
  · apply read_plain (m := 11) (N := 29) (hf := Tryd.func109) (hN := rfl) (hres := rfl) (hR := rdT) (h16 := by kernel_rfl) (hver := by kernel_rfl) (hlay := rfl) (hsz := rfl) (hs := rfl) (hm := by decide) (hmN := by decide)
      (hbd := by kernel_rfl) (hd := dSASL) (hd0 := fun _ _ h => h) (hbody := rfl)
    apply whole_seq
    · apply blk_seq
      · apply blk_nop; rfl
      · apply blk_put (i := 1)
        · apply get_uns
          · apply get_call
            · exact rc_UnsafeString
            · kernel_rfl
            · rfl
          · apply get_call
            · exact rc_String
            · kernel_rfl
            · rfl
          · rfl
        · rfl
        · rfl
        · kernel_rfl
        · kernel_rfl
        · rfl
      · decide
    · apply whole_end
      · exact rd_Complete
      · kernel_rfl
      · rfl
    · rfl
  · intro ver fl v s h
    simp [R.then, putF, idF] at h

theorem newSASL : NewC Tryd.prog 47 sSASL (id ([.num 0, .oct []], [])) := by
  refine new_rule (z := .agg #[.int .i16 0, .string (str [])]) Tryd.func47 rfl rfl rfl (by kernel_rfl) (by decide) (fun w => ⟨?_, rfl⟩) dSASL (by kernel_rfl)
  exact ⟨_, _, rfl, ⟨0, rfl, fits_zero _, rfl⟩, _, _, rfl, ⟨[], rfl, by simp, rfl⟩, rfl⟩
theorem setSASL : SetC Tryd.prog 49 sSASL :=
  set_rule Tryd.func49 rfl rfl rfl (by kernel_rfl) (by kernel_rfl) rfl rfl rfl (by decide)

theorem tellSASL : ∃ G, TellC Tryd.prog 51 sSASL G := by
  apply Exists.intro
  apply tell_plain (N := 16) (n := 1) (hf := Tryd.func51) (hN := rfl) (hres := rfl) (hT := tellT) (hok := by rfl) (h4 := by decide) (hne := by decide) (hn := by decide) (hbody := rfl)
  · apply twhole_seq
    · apply tell_str (i := 1) (o := 1) (eb := 5) tellT
      · kernel_rfl
      · kernel_rfl
      · kernel_rfl
      · rfl
      · rfl
      · decide
    · exact twhole_end tellT (by rfl)
    · intro v ts; simp
  · intro v ts; simp

theorem doorsSASL : ∃ ft v1 G, DoorC Tryd.prog 14 (fun _ => false) ft v1 G ∧ DoorC Tryd.prog 16 (fun _ => false) ft v1 G ∧ ∀ ver fl v s, ft ver fl v s ≠ .stuck := by
  obtain ⟨ft, hr, hns⟩ := readSASL'
  obtain ⟨G, hG⟩ := tellSASL
  refine ⟨ft, id ([.num 0, .oct []], []), G, ?_, ?_, hns⟩
  · exact door_rule Tryd.func14 rfl rfl tellT rfl (by kernel_rfl) (by kernel_rfl) (by kernel_rfl) (by kernel_rfl) (by kernel_rfl) (by kernel_rfl) (eb := 5) (by kernel_rfl) (by kernel_rfl) newSASL setSASL
      (rf_rule Tryd.func50 rfl rfl rfl hr (by kernel_rfl)) hG (by decide)
  · exact door_rule Tryd.func16 rfl rfl tellT rfl (by kernel_rfl) (by kernel_rfl) (by kernel_rfl) (by kernel_rfl) (by kernel_rfl) (by kernel_rfl) (eb := 5) (by kernel_rfl) (by kernel_rfl) newSASL setSASL
      (rf_rule Tryd.func52 rfl rfl rfl hr (by kernel_rfl)) hG (by decide)
end Go.Proofs.YtboohnhpcjagnaaDoor
