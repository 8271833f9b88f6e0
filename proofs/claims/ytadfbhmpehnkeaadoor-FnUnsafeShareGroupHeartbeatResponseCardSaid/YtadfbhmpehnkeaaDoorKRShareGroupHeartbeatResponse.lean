/-
  ShareGroupHeartbeatResponse: how it is read.
-/
import Derived.Test.YtadfbhmpehnkeaaDoorKNs
import Derived.Test.YtadfbhmpehnkeaaDoorKMsgT
import Derived.Test.YtadfbhmpehnkeaaDoorKUu
set_option linter.unusedSimpArgs false
set_option linter.unusedVariables false
namespace Go.Proofs.YtadfbhmpehnkeaaDoor
open Go Go.RowKit

abbrev sShareGroupHeartbeatResponse : St := ⟨10, .cons 0 (.int .i16) (.cons 1 (.int .i32) (.cons 2 (.int .i16) (.cons 3 .pstr (.cons 4 .pstr (.cons 5 (.int .i32) (.cons 6 (.int .i32) (.cons 7 (.pstruct (.cons 0 (.list (.struct (.cons 0 .uuid (.cons 16 (.list (.int .i32) 1) .nil)) (some 17) 18) 18) .nil) (some 1) 2) .nil))))))), some 8, 9⟩
theorem d_sShareGroupHeartbeatResponse : DfC Tryd.prog 134 sShareGroupHeartbeatResponse (fun v => v) := by
  apply dfc_rule (N := 7) (hf := Tryd.func134) (hbody := rfl) (hN := rfl) (hres := rfl) (hN1 := by decide)
  apply dblk_seq (d := fun v => v) (d' := fun v => v)
  · apply dblk_ptr (o := 7)
    · kernel_rfl
    · rfl
  · apply dblk_mv
    rfl
abbrev sShareGroupHeartbeatResponse_1 : St := ⟨19, .cons 0 (.list (.struct (.cons 0 .uuid (.cons 16 (.list (.int .i32) 1) .nil)) (some 17) 18) 18) .nil, some 1, 2⟩
theorem d_sShareGroupHeartbeatResponse_1 : DfC Tryd.prog 188 sShareGroupHeartbeatResponse_1 (fun v => v) := by
  apply dfc_rule (N := 2) (hf := Tryd.func188) (hbody := rfl) (hN := rfl) (hres := rfl) (hN1 := by decide)
  exact dblk_skip
abbrev sShareGroupHeartbeatResponse_2 : St := ⟨25, .cons 0 .uuid (.cons 16 (.list (.int .i32) 1) .nil), some 17, 18⟩
theorem d_sShareGroupHeartbeatResponse_2 : DfC Tryd.prog 189 sShareGroupHeartbeatResponse_2 (fun v => v) := by
  apply dfc_rule (N := 2) (hf := Tryd.func189) (hbody := rfl) (hN := rfl) (hres := rfl) (hN1 := by decide)
  exact dblk_skip
abbrev v_ShareGroupHeartbeatResponse : SV := (Lay.zeroL sShareGroupHeartbeatResponse.lay, ([] : Tags))
abbrev fl_ShareGroupHeartbeatResponse : Int → Bool := (fun ver => decide ((0 : Int) ≤ ver))
set_option maxRecDepth 100000 in
theorem read_ShareGroupHeartbeatResponse : ∃ ft, ReadC Tryd.prog 135 sShareGroupHeartbeatResponse fl_ShareGroupHeartbeatResponse ft ∧ NsI ft v_ShareGroupHeartbeatResponse := by
  apply Exists.intro
  constructor
  · apply read_flex (m := 32) (N := 192) (hf := Tryd.func135) (hN := rfl) (hres := rfl) (hR := rdT) (h16 := by kernel_rfl) (hver := by kernel_rfl) (hlay := rfl) (hsz := rfl) (hs := rfl) (hm := by decide) (hmN := by decide)
      (hbd := by kernel_rfl) (hd := d_sShareGroupHeartbeatResponse) (hd0 := fun v n h => by simpa using h) (hbody := rfl)
    apply whole_seq
    · apply blk_get (i := 1)
      · apply get_call
        · exact rc_Int32
        · kernel_rfl
        · rfl
      · apply blkV_put
        · rfl
        · rfl
        · kernel_rfl
        · kernel_rfl
        · rfl
      · rfl
    · apply whole_seq
      · apply blk_get (i := 2)
        · apply get_call
          · exact rc_Int16
          · kernel_rfl
          · rfl
        · apply blkV_put
          · rfl
          · rfl
          · kernel_rfl
          · kernel_rfl
          · rfl
        · rfl
      · apply whole_seq
        · apply blk_seq
          · apply blk_nop
            rfl
          · apply blk_get (i := 3)
            · apply get_flex
              · rfl
              · apply get_uns
                · apply get_call
                  · exact rc_UnsafeCompactNullableString
                  · kernel_rfl
                  · rfl
                · apply get_call
                  · exact rc_CompactNullableString
                  · kernel_rfl
                  · rfl
                · rfl
              · apply get_uns
                · apply get_call
                  · exact rc_UnsafeNullableString
                  · kernel_rfl
                  · rfl
                · apply get_call
                  · exact rc_NullableString
                  · kernel_rfl
                  · rfl
                · rfl
              · rfl
            · apply blkV_put
              · rfl
              · rfl
              · kernel_rfl
              · kernel_rfl
              · rfl
            · rfl
          · decide
        · apply whole_seq
          · apply blk_seq
            · apply blk_nop
              rfl
            · apply blk_get (i := 4)
              · apply get_flex
                · rfl
                · apply get_uns
                  · apply get_call
                    · exact rc_UnsafeCompactNullableString
                    · kernel_rfl
                    · rfl
                  · apply get_call
                    · exact rc_CompactNullableString
                    · kernel_rfl
                    · rfl
                  · rfl
                · apply get_uns
                  · apply get_call
                    · exact rc_UnsafeNullableString
                    · kernel_rfl
                    · rfl
                  · apply get_call
                    · exact rc_NullableString
                    · kernel_rfl
                    · rfl
                  · rfl
                · rfl
              · apply blkV_put
                · rfl
                · rfl
                · kernel_rfl
                · kernel_rfl
                · rfl
              · rfl
            · decide
          · apply whole_seq
            · apply blk_get (i := 5)
              · apply get_call
                · exact rc_Int32
                · kernel_rfl
                · rfl
              · apply blkV_put
                · rfl
                · rfl
                · kernel_rfl
                · kernel_rfl
                · rfl
              · rfl
            · apply whole_seq
              · apply blk_get (i := 6)
                · apply get_call
                  · exact rc_Int32
                  · kernel_rfl
                  · rfl
                · apply blkV_put
                  · rfl
                  · rfl
                  · kernel_rfl
                  · kernel_rfl
                  · rfl
                · rfl
              · apply whole_seq
                · apply blk_psub (σ' := sShareGroupHeartbeatResponse_1) (i := 7) (z0 := (Lay.zeroL sShareGroupHeartbeatResponse_1.lay, [])) (z := .agg #[.slice none 0 0, .map none])
                  · apply get_call
                    · exact rc_Int8
                    · kernel_rfl
                    · rfl
                  · apply pres_rule
                    · exact rd_Ok
                    · kernel_rfl
                    · rfl
                  · apply blk_seq
                    · apply blk_list (i := 0)
                      · rfl
                      · rfl
                      · kernel_rfl
                      · kernel_rfl
                      · kernel_rfl
                      · apply get_flex
                        · rfl
                        · apply get_call
                          · exact rc_CompactArrayLen
                          · kernel_rfl
                          · rfl
                        · apply get_call
                          · exact rc_ArrayLen
                          · kernel_rfl
                          · rfl
                        · rfl
                      · apply ok_rule
                        · exact rd_Ok
                        · exact rd_Complete
                        · kernel_rfl
                        · kernel_rfl
                        · rfl
                      · apply cut_rule (sz := 18) (e := 200)
                        · kernel_rfl
                        · rfl
                      · apply grow_rule (e := 200) (zs := #[.int .u8 0, .int .u8 0, .int .u8 0, .int .u8 0, .int .u8 0, .int .u8 0, .int .u8 0, .int .u8 0, .int .u8 0, .int .u8 0, .int .u8 0, .int .u8 0, .int .u8 0, .int .u8 0, .int .u8 0, .int .u8 0, .slice none 0 0, .map none])
                        · kernel_rfl
                        · kernel_rfl
                        · kernel_rfl
                        · rfl
                      · apply loop_rule
                        · apply elem_struct (σ := sShareGroupHeartbeatResponse_2) (e := 200) (z := from' #[.int .u8 0, .int .u8 0, .int .u8 0, .int .u8 0, .int .u8 0, .int .u8 0, .int .u8 0, .int .u8 0, .int .u8 0, .int .u8 0, .int .u8 0, .int .u8 0, .int .u8 0, .int .u8 0, .int .u8 0, .int .u8 0, .slice none 0 0, .map none] 0) (z0 := (Lay.zeroL sShareGroupHeartbeatResponse_2.lay, []))
                          · apply blk_seq
                            · apply blk_uuid (i := 0)
                              · exact rc_Uuid
                              · kernel_rfl
                              · kernel_rfl
                              · exact zeroU
                              · kernel_rfl
                              · rfl
                              · rfl
                              · kernel_rfl
                              · rfl
                            · apply blk_seq
                              · apply blk_list (i := 1)
                                · rfl
                                · rfl
                                · kernel_rfl
                                · kernel_rfl
                                · kernel_rfl
                                · apply get_flex
                                  · rfl
                                  · apply get_call
                                    · exact rc_CompactArrayLen
                                    · kernel_rfl
                                    · rfl
                                  · apply get_call
                                    · exact rc_ArrayLen
                                    · kernel_rfl
                                    · rfl
                                  · rfl
                                · apply ok_rule
                                  · exact rd_Ok
                                  · exact rd_Complete
                                  · kernel_rfl
                                  · kernel_rfl
                                  · rfl
                                · apply cut_rule (sz := 1) (e := 21)
                                  · kernel_rfl
                                  · rfl
                                · apply grow_rule (e := 21) (zs := #[.int .i32 0])
                                  · kernel_rfl
                                  · kernel_rfl
                                  · kernel_rfl
                                  · rfl
                                · apply loop_rule
                                  · apply elem_scalar (e := 21)
                                    · apply get_call
                                      · exact rc_Int32
                                      · kernel_rfl
                                      · rfl
                                    · rfl
                                    · rfl
                                    · kernel_rfl
                                    · kernel_rfl
                                    · rfl
                                  · rfl
                                · rfl
                                · rfl
                                · rfl
                              · apply blk_if
                                · apply tst_flex
                                  · rfl
                                  · rfl
                                · apply blk_tag
                                  · exact readTags_spec
                                  · kernel_rfl
                                  · rfl
                                  · kernel_rfl
                                  · kernel_rfl
                                  · rfl
                                  · rfl
                                · exact blk_skip
                                · rfl
                              · decide
                            · decide
                          · exact d_sShareGroupHeartbeatResponse_2
                          · kernel_rfl
                          · kernel_rfl
                          · rfl
                          · rfl
                          · exact zero_ok (lay := sShareGroupHeartbeatResponse_2.lay) (tg := sShareGroupHeartbeatResponse_2.tg) (z := from' #[.int .u8 0, .int .u8 0, .int .u8 0, .int .u8 0, .int .u8 0, .int .u8 0, .int .u8 0, .int .u8 0, .int .u8 0, .int .u8 0, .int .u8 0, .int .u8 0, .int .u8 0, .int .u8 0, .int .u8 0, .int .u8 0, .slice none 0 0, .map none] 0) (by repeat' (first | rfl | trivial | apply And.intro)) (by rfl)
                          · rfl
                        · rfl
                      · rfl
                      · rfl
                      · rfl
                    · apply blk_if
                      · apply tst_flex
                        · rfl
                        · rfl
                      · apply blk_tag
                        · exact readTags_spec
                        · kernel_rfl
                        · rfl
                        · kernel_rfl
                        · kernel_rfl
                        · rfl
                        · rfl
                      · exact blk_skip
                      · rfl
                    · decide
                  · exact d_sShareGroupHeartbeatResponse_1
                  · kernel_rfl
                  · kernel_rfl
                  · rfl
                  · exact zero_ok (lay := sShareGroupHeartbeatResponse_1.lay) (tg := sShareGroupHeartbeatResponse_1.tg) (z := from' #[.slice none 0 0, .map none] 0) (by repeat' (first | rfl | trivial | apply And.intro)) (by rfl)
                  · rfl
                  · rfl
                  · kernel_rfl
                  · kernel_rfl
                  · kernel_rfl
                  · rfl
                  · rfl
                · apply whole_seq
                  · apply blk_if
                    · apply tst_flex
                      · rfl
                      · rfl
                    · apply blk_tag
                      · exact readTags_spec
                      · kernel_rfl
                      · rfl
                      · kernel_rfl
                      · kernel_rfl
                      · rfl
                      · rfl
                    · exact blk_skip
                    · rfl
                  · apply whole_end
                    · exact rd_Complete
                    · kernel_rfl
                    · rfl
                  · rfl
                · rfl
              · rfl
            · rfl
          · rfl
        · rfl
      · rfl
    · rfl
  · apply ns_read (A := [])
    · repeat' (first | (with_reducible (first | exact nse_ok | exact ns_tag | exact ns_id | exact ns_put | apply ns_skip | apply ns_list | apply ns_sub | apply ns_psub | apply nse_struct | apply ns_if | apply ns_then)) | rfl)
    · intro ver; rfl
end Go.Proofs.YtadfbhmpehnkeaaDoor
