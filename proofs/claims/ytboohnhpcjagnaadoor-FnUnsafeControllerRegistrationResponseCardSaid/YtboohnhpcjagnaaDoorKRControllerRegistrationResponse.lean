/-
  ControllerRegistrationResponse: how it is read.
-/
import Derived.Test.YtboohnhpcjagnaaDoorKNs
import Derived.Test.YtboohnhpcjagnaaDoorKMsgT
set_option linter.unusedSimpArgs false
set_option linter.unusedVariables false
namespace Go.Proofs.YtboohnhpcjagnaaDoor
open Go Go.RowKit

abbrev sControllerRegistrationResponse : St := ⟨10, .cons 0 (.int .i16) (.cons 1 (.int .i32) (.cons 2 (.int .i16) (.cons 3 .pstr .nil))), some 4, 5⟩
theorem d_sControllerRegistrationResponse : DfC Tryd.prog 114 sControllerRegistrationResponse (fun v => v) := by
  apply dfc_rule (N := 2) (hf := Tryd.func114) (hbody := rfl) (hN := rfl) (hres := rfl) (hN1 := by decide)
  exact dblk_skip
abbrev v_ControllerRegistrationResponse : SV := (Lay.zeroL sControllerRegistrationResponse.lay, ([] : Tags))
abbrev fl_ControllerRegistrationResponse : Int → Bool := (fun ver => decide ((0 : Int) ≤ ver))
set_option maxRecDepth 100000 in
theorem read_ControllerRegistrationResponse : ∃ ft, ReadC Tryd.prog 115 sControllerRegistrationResponse fl_ControllerRegistrationResponse ft ∧ NsI ft v_ControllerRegistrationResponse := by
  apply Exists.intro
  constructor
  · apply read_flex (m := 14) (N := 54) (hf := Tryd.func115) (hN := rfl) (hres := rfl) (hR := rdT) (h16 := by kernel_rfl) (hver := by kernel_rfl) (hlay := rfl) (hsz := rfl) (hs := rfl) (hm := by decide) (hmN := by decide)
      (hbd := by kernel_rfl) (hd := d_sControllerRegistrationResponse) (hd0 := fun v n h => by simpa using h) (hbody := rfl)
    apply whole_seq
    · apply blk_get (i := 1)
      · apply get_call
        · exact rc_Int32
        · kernel_rfl
        · rfl
      · apply blkV_put
        · rfl
        · rfl
        · kernel_rfl
        · kernel_rfl
        · rfl
      · rfl
    · apply whole_seq
      · apply blk_get (i := 2)
        · apply get_call
          · exact rc_Int16
          · kernel_rfl
          · rfl
        · apply blkV_put
          · rfl
          · rfl
          · kernel_rfl
          · kernel_rfl
          · rfl
        · rfl
      · apply whole_seq
        · apply blk_seq
          · apply blk_nop
            rfl
          · apply blk_get (i := 3)
            · apply get_flex
              · rfl
              · apply get_uns
                · apply get_call
                  · exact rc_UnsafeCompactNullableString
                  · kernel_rfl
                  · rfl
                · apply get_call
                  · exact rc_CompactNullableString
                  · kernel_rfl
                  · rfl
                · rfl
              · apply get_uns
                · apply get_call
                  · exact rc_UnsafeNullableString
                  · kernel_rfl
                  · rfl
                · apply get_call
                  · exact rc_NullableString
                  · kernel_rfl
                  · rfl
                · rfl
              · rfl
            · apply blkV_put
              · rfl
              · rfl
              · kernel_rfl
              · kernel_rfl
              · rfl
            · rfl
          · decide
        · apply whole_seq
          · apply blk_if
            · apply tst_flex
              · rfl
              · rfl
            · apply blk_tag
              · exact readTags_spec
              · kernel_rfl
              · rfl
              · kernel_rfl
              · kernel_rfl
              · rfl
              · rfl
            · exact blk_skip
            · rfl
          · apply whole_end
            · exact rd_Complete
            · kernel_rfl
            · rfl
          · rfl
        · rfl
      · rfl
    · rfl
  · apply ns_read (A := []) (B := [])
    · repeat' (first | exact nse_ok | exact ns_tag | exact ns_id | exact ns_skip (by rfl) | exact ns_put (by rfl) | exact ns_list_last | apply ns_list | apply ns_if | apply ns_sub | apply nse_struct | apply ns_then | rfl)
    · intro ver; rfl
end Go.Proofs.YtboohnhpcjagnaaDoor
