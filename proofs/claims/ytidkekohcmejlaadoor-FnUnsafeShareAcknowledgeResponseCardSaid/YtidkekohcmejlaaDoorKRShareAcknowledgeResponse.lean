/-
  ShareAcknowledgeResponse: how it is read.
-/
import Derived.Test.YtidkekohcmejlaaDoorKNs
import Derived.Test.YtidkekohcmejlaaDoorKMsgT
import Derived.Test.YtidkekohcmejlaaDoorKUu
set_option linter.unusedSimpArgs false
set_option linter.unusedVariables false
namespace Go.Proofs.YtidkekohcmejlaaDoor
open Go Go.RowKit

abbrev sShareAcknowledgeResponse : St := ⟨10, .cons 0 (.int .i16) (.cons 1 (.int .i32) (.cons 2 (.int .i16) (.cons 3 .pstr (.cons 4 (.int .i32) (.cons 5 (.list (.struct (.cons 0 .uuid (.cons 16 (.list (.struct (.cons 0 (.int .i32) (.cons 1 (.int .i16) (.cons 2 .pstr (.cons 3 (.struct (.cons 0 (.int .i32) (.cons 1 (.int .i32) .nil)) (some 2) 3) .nil)))) (some 6) 7) 7) .nil)) (some 17) 18) 18) (.cons 6 (.list (.struct (.cons 0 (.int .i32) (.cons 1 .str (.cons 2 (.int .i32) (.cons 3 .pstr .nil)))) (some 4) 5) 5) .nil)))))), some 7, 8⟩
theorem d_sShareAcknowledgeResponse : DfC Tryd.prog 86 sShareAcknowledgeResponse (fun v => v) := by
  apply dfc_rule (N := 2) (hf := Tryd.func86) (hbody := rfl) (hN := rfl) (hres := rfl) (hN1 := by decide)
  exact dblk_skip
abbrev sShareAcknowledgeResponse_1 : St := ⟨20, .cons 0 .uuid (.cons 16 (.list (.struct (.cons 0 (.int .i32) (.cons 1 (.int .i16) (.cons 2 .pstr (.cons 3 (.struct (.cons 0 (.int .i32) (.cons 1 (.int .i32) .nil)) (some 2) 3) .nil)))) (some 6) 7) 7) .nil), some 17, 18⟩
theorem d_sShareAcknowledgeResponse_1 : DfC Tryd.prog 133 sShareAcknowledgeResponse_1 (fun v => v) := by
  apply dfc_rule (N := 2) (hf := Tryd.func133) (hbody := rfl) (hN := rfl) (hres := rfl) (hN1 := by decide)
  exact dblk_skip
abbrev sShareAcknowledgeResponse_2 : St := ⟨27, .cons 0 (.int .i32) (.cons 1 (.int .i16) (.cons 2 .pstr (.cons 3 (.struct (.cons 0 (.int .i32) (.cons 1 (.int .i32) .nil)) (some 2) 3) .nil))), some 6, 7⟩
theorem d_sShareAcknowledgeResponse_2 : DfC Tryd.prog 135 sShareAcknowledgeResponse_2 (fun v => v) := by
  apply dfc_rule (N := 7) (hf := Tryd.func135) (hbody := rfl) (hN := rfl) (hres := rfl) (hN1 := by decide)
  apply dblk_seq (d := fun v => v) (d' := fun v => v)
  · apply dblk_ptr (o := 3)
    · kernel_rfl
    · rfl
  · apply dblk_mv
    rfl
abbrev sShareAcknowledgeResponse_3 : St := ⟨32, .cons 0 (.int .i32) (.cons 1 (.int .i32) .nil), some 2, 3⟩
theorem d_sShareAcknowledgeResponse_3 : DfC Tryd.prog 136 sShareAcknowledgeResponse_3 (fun v => v) := by
  apply dfc_rule (N := 2) (hf := Tryd.func136) (hbody := rfl) (hN := rfl) (hres := rfl) (hN1 := by decide)
  exact dblk_skip
abbrev sShareAcknowledgeResponse_4 : St := ⟨40, .cons 0 (.int .i32) (.cons 1 .str (.cons 2 (.int .i32) (.cons 3 .pstr .nil))), some 4, 5⟩
theorem d_sShareAcknowledgeResponse_4 : DfC Tryd.prog 138 sShareAcknowledgeResponse_4 (fun v => v) := by
  apply dfc_rule (N := 2) (hf := Tryd.func138) (hbody := rfl) (hN := rfl) (hres := rfl) (hN1 := by decide)
  exact dblk_skip
abbrev v_ShareAcknowledgeResponse : SV := (Lay.zeroL sShareAcknowledgeResponse.lay, ([] : Tags))
abbrev fl_ShareAcknowledgeResponse : Int → Bool := (fun ver => decide ((0 : Int) ≤ ver))
set_option maxRecDepth 100000 in
theorem read_ShareAcknowledgeResponse : ∃ ft, ReadC Tryd.prog 87 sShareAcknowledgeResponse fl_ShareAcknowledgeResponse ft ∧ NsI ft v_ShareAcknowledgeResponse := by
  apply Exists.intro
  constructor
  · apply read_flex (m := 45) (N := 288) (hf := Tryd.func87) (hN := rfl) (hres := rfl) (hR := rdT) (h16 := by kernel_rfl) (hver := by kernel_rfl) (hlay := rfl) (hsz := rfl) (hs := rfl) (hm := by decide) (hmN := by decide)
      (hbd := by kernel_rfl) (hd := d_sShareAcknowledgeResponse) (hd0 := fun v n h => by simpa using h) (hbody := rfl)
    apply whole_seq
    · apply blk_get (i := 1)
      · apply get_call
        · exact rc_Int32
        · kernel_rfl
        · rfl
      · apply blkV_put
        · rfl
        · rfl
        · kernel_rfl
        · kernel_rfl
        · rfl
      · rfl
    · apply whole_seq
      · apply blk_get (i := 2)
        · apply get_call
          · exact rc_Int16
          · kernel_rfl
          · rfl
        · apply blkV_put
          · rfl
          · rfl
          · kernel_rfl
          · kernel_rfl
          · rfl
        · rfl
      · apply whole_seq
        · apply blk_seq
          · apply blk_nop
            rfl
          · apply blk_get (i := 3)
            · apply get_flex
              · rfl
              · apply get_uns
                · apply get_call
                  · exact rc_UnsafeCompactNullableString
                  · kernel_rfl
                  · rfl
                · apply get_call
                  · exact rc_CompactNullableString
                  · kernel_rfl
                  · rfl
                · rfl
              · apply get_uns
                · apply get_call
                  · exact rc_UnsafeNullableString
                  · kernel_rfl
                  · rfl
                · apply get_call
                  · exact rc_NullableString
                  · kernel_rfl
                  · rfl
                · rfl
              · rfl
            · apply blkV_put
              · rfl
              · rfl
              · kernel_rfl
              · kernel_rfl
              · rfl
            · rfl
          · decide
        · apply whole_seq
          · apply blk_if
            · apply tst_geq
              rfl
            · apply blk_get (i := 4)
              · apply get_call
                · exact rc_Int32
                · kernel_rfl
                · rfl
              · apply blkV_put
                · rfl
                · rfl
                · kernel_rfl
                · kernel_rfl
                · rfl
              · rfl
            · exact blk_skip
            · rfl
          · apply whole_seq
            · apply blk_list (i := 5)
              · rfl
              · rfl
              · kernel_rfl
              · kernel_rfl
              · kernel_rfl
              · apply get_flex
                · rfl
                · apply get_call
                  · exact rc_CompactArrayLen
                  · kernel_rfl
                  · rfl
                · apply get_call
                  · exact rc_ArrayLen
                  · kernel_rfl
                  · rfl
                · rfl
              · apply ok_rule
                · exact rd_Ok
                · exact rd_Complete
                · kernel_rfl
                · kernel_rfl
                · rfl
              · apply cut_rule (sz := 18) (e := 104)
                · kernel_rfl
                · rfl
              · apply grow_rule (e := 104) (zs := #[.int .u8 0, .int .u8 0, .int .u8 0, .int .u8 0, .int .u8 0, .int .u8 0, .int .u8 0, .int .u8 0, .int .u8 0, .int .u8 0, .int .u8 0, .int .u8 0, .int .u8 0, .int .u8 0, .int .u8 0, .int .u8 0, .slice none 0 0, .map none])
                · kernel_rfl
                · kernel_rfl
                · kernel_rfl
                · rfl
              · apply loop_rule
                · apply elem_struct (σ := sShareAcknowledgeResponse_1) (e := 104) (z := from' #[.int .u8 0, .int .u8 0, .int .u8 0, .int .u8 0, .int .u8 0, .int .u8 0, .int .u8 0, .int .u8 0, .int .u8 0, .int .u8 0, .int .u8 0, .int .u8 0, .int .u8 0, .int .u8 0, .int .u8 0, .int .u8 0, .slice none 0 0, .map none] 0) (z0 := (Lay.zeroL sShareAcknowledgeResponse_1.lay, []))
                  · apply blk_seq
                    · apply blk_uuid (i := 0)
                      · exact rc_Uuid
                      · kernel_rfl
                      · kernel_rfl
                      · exact zeroU
                      · kernel_rfl
                      · rfl
                      · rfl
                      · kernel_rfl
                      · rfl
                    · apply blk_seq
                      · apply blk_list (i := 1)
                        · rfl
                        · rfl
                        · kernel_rfl
                        · kernel_rfl
                        · kernel_rfl
                        · apply get_flex
                          · rfl
                          · apply get_call
                            · exact rc_CompactArrayLen
                            · kernel_rfl
                            · rfl
                          · apply get_call
                            · exact rc_ArrayLen
                            · kernel_rfl
                            · rfl
                          · rfl
                        · apply ok_rule
                          · exact rd_Ok
                          · exact rd_Complete
                          · kernel_rfl
                          · kernel_rfl
                          · rfl
                        · apply cut_rule (sz := 7) (e := 152)
                          · kernel_rfl
                          · rfl
                        · apply grow_rule (e := 152) (zs := #[.int .i32 0, .int .i16 0, .pointer none, .int .i32 0, .int .i32 0, .map none, .map none])
                          · kernel_rfl
                          · kernel_rfl
                          · kernel_rfl
                          · rfl
                        · apply loop_rule
                          · apply elem_struct (σ := sShareAcknowledgeResponse_2) (e := 152) (z := from' #[.int .i32 0, .int .i16 0, .pointer none, .int .i32 0, .int .i32 0, .map none, .map none] 0) (z0 := (Lay.zeroL sShareAcknowledgeResponse_2.lay, []))
                            · apply blk_seq
                              · apply blk_get (i := 0)
                                · apply get_call
                                  · exact rc_Int32
                                  · kernel_rfl
                                  · rfl
                                · apply blkV_put
                                  · rfl
                                  · rfl
                                  · kernel_rfl
                                  · kernel_rfl
                                  · rfl
                                · rfl
                              · apply blk_seq
                                · apply blk_get (i := 1)
                                  · apply get_call
                                    · exact rc_Int16
                                    · kernel_rfl
                                    · rfl
                                  · apply blkV_put
                                    · rfl
                                    · rfl
                                    · kernel_rfl
                                    · kernel_rfl
                                    · rfl
                                  · rfl
                                · apply blk_seq
                                  · apply blk_seq
                                    · apply blk_nop
                                      rfl
                                    · apply blk_get (i := 2)
                                      · apply get_flex
                                        · rfl
                                        · apply get_uns
                                          · apply get_call
                                            · exact rc_UnsafeCompactNullableString
                                            · kernel_rfl
                                            · rfl
                                          · apply get_call
                                            · exact rc_CompactNullableString
                                            · kernel_rfl
                                            · rfl
                                          · rfl
                                        · apply get_uns
                                          · apply get_call
                                            · exact rc_UnsafeNullableString
                                            · kernel_rfl
                                            · rfl
                                          · apply get_call
                                            · exact rc_NullableString
                                            · kernel_rfl
                                            · rfl
                                          · rfl
                                        · rfl
                                      · apply blkV_put
                                        · rfl
                                        · rfl
                                        · kernel_rfl
                                        · kernel_rfl
                                        · rfl
                                      · rfl
                                    · decide
                                  · apply blk_seq
                                    · apply blk_sub (σ' := sShareAcknowledgeResponse_3) (i := 3)
                                      · apply blk_seq
                                        · apply blk_get (i := 0)
                                          · apply get_call
                                            · exact rc_Int32
                                            · kernel_rfl
                                            · rfl
                                          · apply blkV_put
                                            · rfl
                                            · rfl
                                            · kernel_rfl
                                            · kernel_rfl
                                            · rfl
                                          · rfl
                                        · apply blk_seq
                                          · apply blk_get (i := 1)
                                            · apply get_call
                                              · exact rc_Int32
                                              · kernel_rfl
                                              · rfl
                                            · apply blkV_put
                                              · rfl
                                              · rfl
                                              · kernel_rfl
                                              · kernel_rfl
                                              · rfl
                                            · rfl
                                          · apply blk_if
                                            · apply tst_flex
                                              · rfl
                                              · rfl
                                            · apply blk_tag
                                              · exact readTags_spec
                                              · kernel_rfl
                                              · rfl
                                              · kernel_rfl
                                              · kernel_rfl
                                              · rfl
                                              · rfl
                                            · exact blk_skip
                                            · rfl
                                          · decide
                                        · decide
                                      · exact d_sShareAcknowledgeResponse_3
                                      · kernel_rfl
                                      · rfl
                                      · rfl
                                      · kernel_rfl
                                      · rfl
                                    · apply blk_if
                                      · apply tst_flex
                                        · rfl
                                        · rfl
                                      · apply blk_tag
                                        · exact readTags_spec
                                        · kernel_rfl
                                        · rfl
                                        · kernel_rfl
                                        · kernel_rfl
                                        · rfl
                                        · rfl
                                      · exact blk_skip
                                      · rfl
                                    · decide
                                  · decide
                                · decide
                              · decide
                            · exact d_sShareAcknowledgeResponse_2
                            · kernel_rfl
                            · kernel_rfl
                            · rfl
                            · rfl
                            · exact zero_ok (lay := sShareAcknowledgeResponse_2.lay) (tg := sShareAcknowledgeResponse_2.tg) (z := from' #[.int .i32 0, .int .i16 0, .pointer none, .int .i32 0, .int .i32 0, .map none, .map none] 0) (by repeat' (first | rfl | trivial | apply And.intro)) (by rfl)
                            · rfl
                          · rfl
                        · rfl
                        · rfl
                        · rfl
                      · apply blk_if
                        · apply tst_flex
                          · rfl
                          · rfl
                        · apply blk_tag
                          · exact readTags_spec
                          · kernel_rfl
                          · rfl
                          · kernel_rfl
                          · kernel_rfl
                          · rfl
                          · rfl
                        · exact blk_skip
                        · rfl
                      · decide
                    · decide
                  · exact d_sShareAcknowledgeResponse_1
                  · kernel_rfl
                  · kernel_rfl
                  · rfl
                  · rfl
                  · exact zero_ok (lay := sShareAcknowledgeResponse_1.lay) (tg := sShareAcknowledgeResponse_1.tg) (z := from' #[.int .u8 0, .int .u8 0, .int .u8 0, .int .u8 0, .int .u8 0, .int .u8 0, .int .u8 0, .int .u8 0, .int .u8 0, .int .u8 0, .int .u8 0, .int .u8 0, .int .u8 0, .int .u8 0, .int .u8 0, .int .u8 0, .slice none 0 0, .map none] 0) (by repeat' (first | rfl | trivial | apply And.intro)) (by rfl)
                  · rfl
                · rfl
              · rfl
              · rfl
              · rfl
            · apply whole_seq
              · apply blk_list (i := 6)
                · rfl
                · rfl
                · kernel_rfl
                · kernel_rfl
                · kernel_rfl
                · apply get_flex
                  · rfl
                  · apply get_call
                    · exact rc_CompactArrayLen
                    · kernel_rfl
                    · rfl
                  · apply get_call
                    · exact rc_ArrayLen
                    · kernel_rfl
                    · rfl
                  · rfl
                · apply ok_rule
                  · exact rd_Ok
                  · exact rd_Complete
                  · kernel_rfl
                  · kernel_rfl
                  · rfl
                · apply cut_rule (sz := 5) (e := 108)
                  · kernel_rfl
                  · rfl
                · apply grow_rule (e := 108) (zs := #[.int .i32 0, .string (str []), .int .i32 0, .pointer none, .map none])
                  · kernel_rfl
                  · kernel_rfl
                  · kernel_rfl
                  · rfl
                · apply loop_rule
                  · apply elem_struct (σ := sShareAcknowledgeResponse_4) (e := 108) (z := from' #[.int .i32 0, .string (str []), .int .i32 0, .pointer none, .map none] 0) (z0 := (Lay.zeroL sShareAcknowledgeResponse_4.lay, []))
                    · apply blk_seq
                      · apply blk_get (i := 0)
                        · apply get_call
                          · exact rc_Int32
                          · kernel_rfl
                          · rfl
                        · apply blkV_put
                          · rfl
                          · rfl
                          · kernel_rfl
                          · kernel_rfl
                          · rfl
                        · rfl
                      · apply blk_seq
                        · apply blk_seq
                          · apply blk_nop
                            rfl
                          · apply blk_get (i := 1)
                            · apply get_uns
                              · apply get_flex
                                · rfl
                                · apply get_call
                                  · exact rc_UnsafeCompactString
                                  · kernel_rfl
                                  · rfl
                                · apply get_call
                                  · exact rc_UnsafeString
                                  · kernel_rfl
                                  · rfl
                                · rfl
                              · apply get_flex
                                · rfl
                                · apply get_call
                                  · exact rc_CompactString
                                  · kernel_rfl
                                  · rfl
                                · apply get_call
                                  · exact rc_String
                                  · kernel_rfl
                                  · rfl
                                · rfl
                              · rfl
                            · apply blkV_put
                              · rfl
                              · rfl
                              · kernel_rfl
                              · kernel_rfl
                              · rfl
                            · rfl
                          · decide
                        · apply blk_seq
                          · apply blk_get (i := 2)
                            · apply get_call
                              · exact rc_Int32
                              · kernel_rfl
                              · rfl
                            · apply blkV_put
                              · rfl
                              · rfl
                              · kernel_rfl
                              · kernel_rfl
                              · rfl
                            · rfl
                          · apply blk_seq
                            · apply blk_seq
                              · apply blk_nop
                                rfl
                              · apply blk_get (i := 3)
                                · apply get_flex
                                  · rfl
                                  · apply get_uns
                                    · apply get_call
                                      · exact rc_UnsafeCompactNullableString
                                      · kernel_rfl
                                      · rfl
                                    · apply get_call
                                      · exact rc_CompactNullableString
                                      · kernel_rfl
                                      · rfl
                                    · rfl
                                  · apply get_uns
                                    · apply get_call
                                      · exact rc_UnsafeNullableString
                                      · kernel_rfl
                                      · rfl
                                    · apply get_call
                                      · exact rc_NullableString
                                      · kernel_rfl
                                      · rfl
                                    · rfl
                                  · rfl
                                · apply blkV_put
                                  · rfl
                                  · rfl
                                  · kernel_rfl
                                  · kernel_rfl
                                  · rfl
                                · rfl
                              · decide
                            · apply blk_if
                              · apply tst_flex
                                · rfl
                                · rfl
                              · apply blk_tag
                                · exact readTags_spec
                                · kernel_rfl
                                · rfl
                                · kernel_rfl
                                · kernel_rfl
                                · rfl
                                · rfl
                              · exact blk_skip
                              · rfl
                            · decide
                          · decide
                        · decide
                      · decide
                    · exact d_sShareAcknowledgeResponse_4
                    · kernel_rfl
                    · kernel_rfl
                    · rfl
                    · rfl
                    · exact zero_ok (lay := sShareAcknowledgeResponse_4.lay) (tg := sShareAcknowledgeResponse_4.tg) (z := from' #[.int .i32 0, .string (str []), .int .i32 0, .pointer none, .map none] 0) (by repeat' (first | rfl | trivial | apply And.intro)) (by rfl)
                    · rfl
                  · rfl
                · rfl
                · rfl
                · rfl
              · apply whole_seq
                · apply blk_if
                  · apply tst_flex
                    · rfl
                    · rfl
                  · apply blk_tag
                    · exact readTags_spec
                    · kernel_rfl
                    · rfl
                    · kernel_rfl
                    · kernel_rfl
                    · rfl
                    · rfl
                  · exact blk_skip
                  · rfl
                · apply whole_end
                  · exact rd_Complete
                  · kernel_rfl
                  · rfl
                · rfl
              · rfl
            · rfl
          · rfl
        · rfl
      · rfl
    · rfl
  · apply ns_read (A := [5, 6])
    · repeat' (first | (with_reducible (first | exact nse_ok | exact ns_tag | exact ns_id | exact ns_put | apply ns_skip | apply ns_list | apply ns_sub | apply ns_psub | apply nse_struct | apply ns_if | apply ns_then)) | rfl)
    · intro ver; rfl
end Go.Proofs.YtidkekohcmejlaaDoor
