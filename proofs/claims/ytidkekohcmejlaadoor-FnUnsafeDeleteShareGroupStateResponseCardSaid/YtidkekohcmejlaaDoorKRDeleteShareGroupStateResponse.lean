/-
  DeleteShareGroupStateResponse: how it is read.
-/
import Derived.Test.YtidkekohcmejlaaDoorKNs
import Derived.Test.YtidkekohcmejlaaDoorKMsgT
import Derived.Test.YtidkekohcmejlaaDoorKUu
set_option linter.unusedSimpArgs false
set_option linter.unusedVariables false
namespace Go.Proofs.YtidkekohcmejlaaDoor
open Go Go.RowKit

abbrev sDeleteShareGroupStateResponse : St := ⟨10, .cons 0 (.int .i16) (.cons 1 (.list (.struct (.cons 0 .uuid (.cons 16 (.list (.struct (.cons 0 (.int .i32) (.cons 1 (.int .i16) (.cons 2 .pstr .nil))) (some 3) 4) 4) .nil)) (some 17) 18) 18) .nil), some 2, 3⟩
theorem d_sDeleteShareGroupStateResponse : DfC Tryd.prog 94 sDeleteShareGroupStateResponse (fun v => v) := by
  apply dfc_rule (N := 2) (hf := Tryd.func94) (hbody := rfl) (hN := rfl) (hres := rfl) (hN1 := by decide)
  exact dblk_skip
abbrev sDeleteShareGroupStateResponse_1 : St := ⟨16, .cons 0 .uuid (.cons 16 (.list (.struct (.cons 0 (.int .i32) (.cons 1 (.int .i16) (.cons 2 .pstr .nil))) (some 3) 4) 4) .nil), some 17, 18⟩
theorem d_sDeleteShareGroupStateResponse_1 : DfC Tryd.prog 148 sDeleteShareGroupStateResponse_1 (fun v => v) := by
  apply dfc_rule (N := 2) (hf := Tryd.func148) (hbody := rfl) (hN := rfl) (hres := rfl) (hN1 := by decide)
  exact dblk_skip
abbrev sDeleteShareGroupStateResponse_2 : St := ⟨23, .cons 0 (.int .i32) (.cons 1 (.int .i16) (.cons 2 .pstr .nil)), some 3, 4⟩
theorem d_sDeleteShareGroupStateResponse_2 : DfC Tryd.prog 149 sDeleteShareGroupStateResponse_2 (fun v => v) := by
  apply dfc_rule (N := 2) (hf := Tryd.func149) (hbody := rfl) (hN := rfl) (hres := rfl) (hN1 := by decide)
  exact dblk_skip
abbrev v_DeleteShareGroupStateResponse : SV := (Lay.zeroL sDeleteShareGroupStateResponse.lay, ([] : Tags))
abbrev fl_DeleteShareGroupStateResponse : Int → Bool := (fun ver => decide ((0 : Int) ≤ ver))
set_option maxRecDepth 100000 in
theorem read_DeleteShareGroupStateResponse : ∃ ft, ReadC Tryd.prog 95 sDeleteShareGroupStateResponse fl_DeleteShareGroupStateResponse ft ∧ NsI ft v_DeleteShareGroupStateResponse := by
  apply Exists.intro
  constructor
  · apply read_flex (m := 27) (N := 150) (hf := Tryd.func95) (hN := rfl) (hres := rfl) (hR := rdT) (h16 := by kernel_rfl) (hver := by kernel_rfl) (hlay := rfl) (hsz := rfl) (hs := rfl) (hm := by decide) (hmN := by decide)
      (hbd := by kernel_rfl) (hd := d_sDeleteShareGroupStateResponse) (hd0 := fun v n h => by simpa using h) (hbody := rfl)
    apply whole_seq
    · apply blk_list (i := 1)
      · rfl
      · rfl
      · kernel_rfl
      · kernel_rfl
      · kernel_rfl
      · apply get_flex
        · rfl
        · apply get_call
          · exact rc_CompactArrayLen
          · kernel_rfl
          · rfl
        · apply get_call
          · exact rc_ArrayLen
          · kernel_rfl
          · rfl
        · rfl
      · apply ok_rule
        · exact rd_Ok
        · exact rd_Complete
        · kernel_rfl
        · kernel_rfl
        · rfl
      · apply cut_rule (sz := 18) (e := 119)
        · kernel_rfl
        · rfl
      · apply grow_rule (e := 119) (zs := #[.int .u8 0, .int .u8 0, .int .u8 0, .int .u8 0, .int .u8 0, .int .u8 0, .int .u8 0, .int .u8 0, .int .u8 0, .int .u8 0, .int .u8 0, .int .u8 0, .int .u8 0, .int .u8 0, .int .u8 0, .int .u8 0, .slice none 0 0, .map none])
        · kernel_rfl
        · kernel_rfl
        · kernel_rfl
        · rfl
      · apply loop_rule
        · apply elem_struct (σ := sDeleteShareGroupStateResponse_1) (e := 119) (z := from' #[.int .u8 0, .int .u8 0, .int .u8 0, .int .u8 0, .int .u8 0, .int .u8 0, .int .u8 0, .int .u8 0, .int .u8 0, .int .u8 0, .int .u8 0, .int .u8 0, .int .u8 0, .int .u8 0, .int .u8 0, .int .u8 0, .slice none 0 0, .map none] 0) (z0 := (Lay.zeroL sDeleteShareGroupStateResponse_1.lay, []))
          · apply blk_seq
            · apply blk_uuid (i := 0)
              · exact rc_Uuid
              · kernel_rfl
              · kernel_rfl
              · exact zeroU
              · kernel_rfl
              · rfl
              · rfl
              · kernel_rfl
              · rfl
            · apply blk_seq
              · apply blk_list (i := 1)
                · rfl
                · rfl
                · kernel_rfl
                · kernel_rfl
                · kernel_rfl
                · apply get_flex
                  · rfl
                  · apply get_call
                    · exact rc_CompactArrayLen
                    · kernel_rfl
                    · rfl
                  · apply get_call
                    · exact rc_ArrayLen
                    · kernel_rfl
                    · rfl
                  · rfl
                · apply ok_rule
                  · exact rd_Ok
                  · exact rd_Complete
                  · kernel_rfl
                  · kernel_rfl
                  · rfl
                · apply cut_rule (sz := 4) (e := 164)
                  · kernel_rfl
                  · rfl
                · apply grow_rule (e := 164) (zs := #[.int .i32 0, .int .i16 0, .pointer none, .map none])
                  · kernel_rfl
                  · kernel_rfl
                  · kernel_rfl
                  · rfl
                · apply loop_rule
                  · apply elem_struct (σ := sDeleteShareGroupStateResponse_2) (e := 164) (z := from' #[.int .i32 0, .int .i16 0, .pointer none, .map none] 0) (z0 := (Lay.zeroL sDeleteShareGroupStateResponse_2.lay, []))
                    · apply blk_seq
                      · apply blk_get (i := 0)
                        · apply get_call
                          · exact rc_Int32
                          · kernel_rfl
                          · rfl
                        · apply blkV_put
                          · rfl
                          · rfl
                          · kernel_rfl
                          · kernel_rfl
                          · rfl
                        · rfl
                      · apply blk_seq
                        · apply blk_get (i := 1)
                          · apply get_call
                            · exact rc_Int16
                            · kernel_rfl
                            · rfl
                          · apply blkV_put
                            · rfl
                            · rfl
                            · kernel_rfl
                            · kernel_rfl
                            · rfl
                          · rfl
                        · apply blk_seq
                          · apply blk_seq
                            · apply blk_nop
                              rfl
                            · apply blk_get (i := 2)
                              · apply get_flex
                                · rfl
                                · apply get_uns
                                  · apply get_call
                                    · exact rc_UnsafeCompactNullableString
                                    · kernel_rfl
                                    · rfl
                                  · apply get_call
                                    · exact rc_CompactNullableString
                                    · kernel_rfl
                                    · rfl
                                  · rfl
                                · apply get_uns
                                  · apply get_call
                                    · exact rc_UnsafeNullableString
                                    · kernel_rfl
                                    · rfl
                                  · apply get_call
                                    · exact rc_NullableString
                                    · kernel_rfl
                                    · rfl
                                  · rfl
                                · rfl
                              · apply blkV_put
                                · rfl
                                · rfl
                                · kernel_rfl
                                · kernel_rfl
                                · rfl
                              · rfl
                            · decide
                          · apply blk_if
                            · apply tst_flex
                              · rfl
                              · rfl
                            · apply blk_tag
                              · exact readTags_spec
                              · kernel_rfl
                              · rfl
                              · kernel_rfl
                              · kernel_rfl
                              · rfl
                              · rfl
                            · exact blk_skip
                            · rfl
                          · decide
                        · decide
                      · decide
                    · exact d_sDeleteShareGroupStateResponse_2
                    · kernel_rfl
                    · kernel_rfl
                    · rfl
                    · rfl
                    · exact zero_ok (lay := sDeleteShareGroupStateResponse_2.lay) (tg := sDeleteShareGroupStateResponse_2.tg) (z := from' #[.int .i32 0, .int .i16 0, .pointer none, .map none] 0) (by repeat' (first | rfl | trivial | apply And.intro)) (by rfl)
                    · rfl
                  · rfl
                · rfl
                · rfl
                · rfl
              · apply blk_if
                · apply tst_flex
                  · rfl
                  · rfl
                · apply blk_tag
                  · exact readTags_spec
                  · kernel_rfl
                  · rfl
                  · kernel_rfl
                  · kernel_rfl
                  · rfl
                  · rfl
                · exact blk_skip
                · rfl
              · decide
            · decide
          · exact d_sDeleteShareGroupStateResponse_1
          · kernel_rfl
          · kernel_rfl
          · rfl
          · rfl
          · exact zero_ok (lay := sDeleteShareGroupStateResponse_1.lay) (tg := sDeleteShareGroupStateResponse_1.tg) (z := from' #[.int .u8 0, .int .u8 0, .int .u8 0, .int .u8 0, .int .u8 0, .int .u8 0, .int .u8 0, .int .u8 0, .int .u8 0, .int .u8 0, .int .u8 0, .int .u8 0, .int .u8 0, .int .u8 0, .int .u8 0, .int .u8 0, .slice none 0 0, .map none] 0) (by repeat' (first | rfl | trivial | apply And.intro)) (by rfl)
          · rfl
        · rfl
      · rfl
      · rfl
      · rfl
    · apply whole_seq
      · apply blk_if
        · apply tst_flex
          · rfl
          · rfl
        · apply blk_tag
          · exact readTags_spec
          · kernel_rfl
          · rfl
          · kernel_rfl
          · kernel_rfl
          · rfl
          · rfl
        · exact blk_skip
        · rfl
      · apply whole_end
        · exact rd_Complete
        · kernel_rfl
        · rfl
      · rfl
    · rfl
  · apply ns_read (A := [1])
    · repeat' (first | (with_reducible (first | exact nse_ok | exact ns_tag | exact ns_id | exact ns_put | apply ns_skip | apply ns_list | apply ns_sub | apply ns_psub | apply nse_struct | apply ns_if | apply ns_then)) | rfl)
    · intro ver; rfl
end Go.Proofs.YtidkekohcmejlaaDoor
