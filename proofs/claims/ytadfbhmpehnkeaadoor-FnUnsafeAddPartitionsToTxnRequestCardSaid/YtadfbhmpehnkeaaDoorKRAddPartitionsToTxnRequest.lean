/-
  AddPartitionsToTxnRequest: how it is read.
-/
import Derived.Test.YtadfbhmpehnkeaaDoorKNs
import Derived.Test.YtadfbhmpehnkeaaDoorKMsgT
import Derived.Test.YtadfbhmpehnkeaaDoorKUu
set_option linter.unusedSimpArgs false
set_option linter.unusedVariables false
namespace Go.Proofs.YtadfbhmpehnkeaaDoor
open Go Go.RowKit

abbrev sAddPartitionsToTxnRequest : St := ⟨10, .cons 0 (.int .i16) (.cons 1 .str (.cons 2 (.int .i64) (.cons 3 (.int .i16) (.cons 4 (.list (.struct (.cons 0 .str (.cons 1 (.list (.int .i32) 1) .nil)) (some 2) 3) 3) (.cons 5 (.list (.struct (.cons 0 .str (.cons 1 (.int .i64) (.cons 2 (.int .i16) (.cons 3 .bool (.cons 4 (.list (.struct (.cons 0 .str (.cons 1 (.list (.int .i32) 1) .nil)) (some 2) 3) 3) .nil))))) (some 5) 6) 6) .nil))))), some 6, 7⟩
theorem d_sAddPartitionsToTxnRequest : DfC Tryd.prog 143 sAddPartitionsToTxnRequest (fun v => v) := by
  apply dfc_rule (N := 2) (hf := Tryd.func143) (hbody := rfl) (hN := rfl) (hres := rfl) (hN1 := by decide)
  exact dblk_skip
abbrev sAddPartitionsToTxnRequest_1 : St := ⟨19, .cons 0 .str (.cons 1 (.list (.int .i32) 1) .nil), some 2, 3⟩
theorem d_sAddPartitionsToTxnRequest_1 : DfC Tryd.prog 196 sAddPartitionsToTxnRequest_1 (fun v => v) := by
  apply dfc_rule (N := 2) (hf := Tryd.func196) (hbody := rfl) (hN := rfl) (hres := rfl) (hN1 := by decide)
  exact dblk_skip
abbrev sAddPartitionsToTxnRequest_2 : St := ⟨31, .cons 0 .str (.cons 1 (.int .i64) (.cons 2 (.int .i16) (.cons 3 .bool (.cons 4 (.list (.struct (.cons 0 .str (.cons 1 (.list (.int .i32) 1) .nil)) (some 2) 3) 3) .nil)))), some 5, 6⟩
theorem d_sAddPartitionsToTxnRequest_2 : DfC Tryd.prog 197 sAddPartitionsToTxnRequest_2 (fun v => v) := by
  apply dfc_rule (N := 2) (hf := Tryd.func197) (hbody := rfl) (hN := rfl) (hres := rfl) (hN1 := by decide)
  exact dblk_skip
abbrev sAddPartitionsToTxnRequest_3 : St := ⟨41, .cons 0 .str (.cons 1 (.list (.int .i32) 1) .nil), some 2, 3⟩
theorem d_sAddPartitionsToTxnRequest_3 : DfC Tryd.prog 198 sAddPartitionsToTxnRequest_3 (fun v => v) := by
  apply dfc_rule (N := 2) (hf := Tryd.func198) (hbody := rfl) (hN := rfl) (hres := rfl) (hN1 := by decide)
  exact dblk_skip
abbrev v_AddPartitionsToTxnRequest : SV := (Lay.zeroL sAddPartitionsToTxnRequest.lay, ([] : Tags))
abbrev fl_AddPartitionsToTxnRequest : Int → Bool := (fun ver => decide ((3 : Int) ≤ ver))
set_option maxRecDepth 100000 in
theorem read_AddPartitionsToTxnRequest : ∃ ft, ReadC Tryd.prog 144 sAddPartitionsToTxnRequest fl_AddPartitionsToTxnRequest ft ∧ NsI ft v_AddPartitionsToTxnRequest := by
  apply Exists.intro
  constructor
  · apply read_flex (m := 48) (N := 345) (hf := Tryd.func144) (hN := rfl) (hres := rfl) (hR := rdT) (h16 := by kernel_rfl) (hver := by kernel_rfl) (hlay := rfl) (hsz := rfl) (hs := rfl) (hm := by decide) (hmN := by decide)
      (hbd := by kernel_rfl) (hd := d_sAddPartitionsToTxnRequest) (hd0 := fun v n h => by simpa using h) (hbody := rfl)
    apply whole_seq
    · apply blk_if
      · apply tst_and
        rfl
      · apply blk_seq
        · apply blk_nop
          rfl
        · apply blk_get (i := 1)
          · apply get_uns
            · apply get_flex
              · rfl
              · apply get_call
                · exact rc_UnsafeCompactString
                · kernel_rfl
                · rfl
              · apply get_call
                · exact rc_UnsafeString
                · kernel_rfl
                · rfl
              · rfl
            · apply get_flex
              · rfl
              · apply get_call
                · exact rc_CompactString
                · kernel_rfl
                · rfl
              · apply get_call
                · exact rc_String
                · kernel_rfl
                · rfl
              · rfl
            · rfl
          · apply blkV_put
            · rfl
            · rfl
            · kernel_rfl
            · kernel_rfl
            · rfl
          · rfl
        · decide
      · exact blk_skip
      · rfl
    · apply whole_seq
      · apply blk_if
        · apply tst_and
          rfl
        · apply blk_get (i := 2)
          · apply get_call
            · exact rc_Int64
            · kernel_rfl
            · rfl
          · apply blkV_put
            · rfl
            · rfl
            · kernel_rfl
            · kernel_rfl
            · rfl
          · rfl
        · exact blk_skip
        · rfl
      · apply whole_seq
        · apply blk_if
          · apply tst_and
            rfl
          · apply blk_get (i := 3)
            · apply get_call
              · exact rc_Int16
              · kernel_rfl
              · rfl
            · apply blkV_put
              · rfl
              · rfl
              · kernel_rfl
              · kernel_rfl
              · rfl
            · rfl
          · exact blk_skip
          · rfl
        · apply whole_seq
          · apply blk_if
            · apply tst_and
              rfl
            · apply blk_list (i := 4)
              · rfl
              · rfl
              · kernel_rfl
              · kernel_rfl
              · kernel_rfl
              · apply get_flex
                · rfl
                · apply get_call
                  · exact rc_CompactArrayLen
                  · kernel_rfl
                  · rfl
                · apply get_call
                  · exact rc_ArrayLen
                  · kernel_rfl
                  · rfl
                · rfl
              · apply ok_rule
                · exact rd_Ok
                · exact rd_Complete
                · kernel_rfl
                · kernel_rfl
                · rfl
              · apply cut_rule (sz := 3) (e := 159)
                · kernel_rfl
                · rfl
              · apply grow_rule (e := 159) (zs := #[.string (str []), .slice none 0 0, .map none])
                · kernel_rfl
                · kernel_rfl
                · kernel_rfl
                · rfl
              · apply loop_rule
                · apply elem_struct (σ := sAddPartitionsToTxnRequest_1) (e := 159) (z := from' #[.string (str []), .slice none 0 0, .map none] 0) (z0 := (Lay.zeroL sAddPartitionsToTxnRequest_1.lay, []))
                  · apply blk_seq
                    · apply blk_seq
                      · apply blk_nop
                        rfl
                      · apply blk_get (i := 0)
                        · apply get_uns
                          · apply get_flex
                            · rfl
                            · apply get_call
                              · exact rc_UnsafeCompactString
                              · kernel_rfl
                              · rfl
                            · apply get_call
                              · exact rc_UnsafeString
                              · kernel_rfl
                              · rfl
                            · rfl
                          · apply get_flex
                            · rfl
                            · apply get_call
                              · exact rc_CompactString
                              · kernel_rfl
                              · rfl
                            · apply get_call
                              · exact rc_String
                              · kernel_rfl
                              · rfl
                            · rfl
                          · rfl
                        · apply blkV_put
                          · rfl
                          · rfl
                          · kernel_rfl
                          · kernel_rfl
                          · rfl
                        · rfl
                      · decide
                    · apply blk_seq
                      · apply blk_list (i := 1)
                        · rfl
                        · rfl
                        · kernel_rfl
                        · kernel_rfl
                        · kernel_rfl
                        · apply get_flex
                          · rfl
                          · apply get_call
                            · exact rc_CompactArrayLen
                            · kernel_rfl
                            · rfl
                          · apply get_call
                            · exact rc_ArrayLen
                            · kernel_rfl
                            · rfl
                          · rfl
                        · apply ok_rule
                          · exact rd_Ok
                          · exact rd_Complete
                          · kernel_rfl
                          · kernel_rfl
                          · rfl
                        · apply cut_rule (sz := 1) (e := 21)
                          · kernel_rfl
                          · rfl
                        · apply grow_rule (e := 21) (zs := #[.int .i32 0])
                          · kernel_rfl
                          · kernel_rfl
                          · kernel_rfl
                          · rfl
                        · apply loop_rule
                          · apply elem_scalar (e := 21)
                            · apply get_call
                              · exact rc_Int32
                              · kernel_rfl
                              · rfl
                            · rfl
                            · rfl
                            · kernel_rfl
                            · kernel_rfl
                            · rfl
                          · rfl
                        · rfl
                        · rfl
                        · rfl
                      · apply blk_if
                        · apply tst_flex
                          · rfl
                          · rfl
                        · apply blk_tag
                          · exact readTags_spec
                          · kernel_rfl
                          · rfl
                          · kernel_rfl
                          · kernel_rfl
                          · rfl
                          · rfl
                        · exact blk_skip
                        · rfl
                      · decide
                    · decide
                  · exact d_sAddPartitionsToTxnRequest_1
                  · kernel_rfl
                  · kernel_rfl
                  · rfl
                  · rfl
                  · exact zero_ok (lay := sAddPartitionsToTxnRequest_1.lay) (tg := sAddPartitionsToTxnRequest_1.tg) (z := from' #[.string (str []), .slice none 0 0, .map none] 0) (by repeat' (first | rfl | trivial | apply And.intro)) (by rfl)
                  · rfl
                · rfl
              · rfl
              · rfl
              · rfl
            · exact blk_skip
            · rfl
          · apply whole_seq
            · apply blk_if
              · apply tst_geq
                rfl
              · apply blk_list (i := 5)
                · rfl
                · rfl
                · kernel_rfl
                · kernel_rfl
                · kernel_rfl
                · apply get_flex
                  · rfl
                  · apply get_call
                    · exact rc_CompactArrayLen
                    · kernel_rfl
                    · rfl
                  · apply get_call
                    · exact rc_ArrayLen
                    · kernel_rfl
                    · rfl
                  · rfl
                · apply ok_rule
                  · exact rd_Ok
                  · exact rd_Complete
                  · kernel_rfl
                  · kernel_rfl
                  · rfl
                · apply cut_rule (sz := 6) (e := 164)
                  · kernel_rfl
                  · rfl
                · apply grow_rule (e := 164) (zs := #[.string (str []), .int .i64 0, .int .i16 0, .bool false, .slice none 0 0, .map none])
                  · kernel_rfl
                  · kernel_rfl
                  · kernel_rfl
                  · rfl
                · apply loop_rule
                  · apply elem_struct (σ := sAddPartitionsToTxnRequest_2) (e := 164) (z := from' #[.string (str []), .int .i64 0, .int .i16 0, .bool false, .slice none 0 0, .map none] 0) (z0 := (Lay.zeroL sAddPartitionsToTxnRequest_2.lay, []))
                    · apply blk_seq
                      · apply blk_seq
                        · apply blk_nop
                          rfl
                        · apply blk_get (i := 0)
                          · apply get_uns
                            · apply get_flex
                              · rfl
                              · apply get_call
                                · exact rc_UnsafeCompactString
                                · kernel_rfl
                                · rfl
                              · apply get_call
                                · exact rc_UnsafeString
                                · kernel_rfl
                                · rfl
                              · rfl
                            · apply get_flex
                              · rfl
                              · apply get_call
                                · exact rc_CompactString
                                · kernel_rfl
                                · rfl
                              · apply get_call
                                · exact rc_String
                                · kernel_rfl
                                · rfl
                              · rfl
                            · rfl
                          · apply blkV_put
                            · rfl
                            · rfl
                            · kernel_rfl
                            · kernel_rfl
                            · rfl
                          · rfl
                        · decide
                      · apply blk_seq
                        · apply blk_get (i := 1)
                          · apply get_call
                            · exact rc_Int64
                            · kernel_rfl
                            · rfl
                          · apply blkV_put
                            · rfl
                            · rfl
                            · kernel_rfl
                            · kernel_rfl
                            · rfl
                          · rfl
                        · apply blk_seq
                          · apply blk_get (i := 2)
                            · apply get_call
                              · exact rc_Int16
                              · kernel_rfl
                              · rfl
                            · apply blkV_put
                              · rfl
                              · rfl
                              · kernel_rfl
                              · kernel_rfl
                              · rfl
                            · rfl
                          · apply blk_seq
                            · apply blk_get (i := 3)
                              · apply get_call
                                · exact rc_Bool
                                · kernel_rfl
                                · rfl
                              · apply blkV_put
                                · rfl
                                · rfl
                                · kernel_rfl
                                · kernel_rfl
                                · rfl
                              · rfl
                            · apply blk_seq
                              · apply blk_list (i := 4)
                                · rfl
                                · rfl
                                · kernel_rfl
                                · kernel_rfl
                                · kernel_rfl
                                · apply get_flex
                                  · rfl
                                  · apply get_call
                                    · exact rc_CompactArrayLen
                                    · kernel_rfl
                                    · rfl
                                  · apply get_call
                                    · exact rc_ArrayLen
                                    · kernel_rfl
                                    · rfl
                                  · rfl
                                · apply ok_rule
                                  · exact rd_Ok
                                  · exact rd_Complete
                                  · kernel_rfl
                                  · kernel_rfl
                                  · rfl
                                · apply cut_rule (sz := 3) (e := 207)
                                  · kernel_rfl
                                  · rfl
                                · apply grow_rule (e := 207) (zs := #[.string (str []), .slice none 0 0, .map none])
                                  · kernel_rfl
                                  · kernel_rfl
                                  · kernel_rfl
                                  · rfl
                                · apply loop_rule
                                  · apply elem_struct (σ := sAddPartitionsToTxnRequest_3) (e := 207) (z := from' #[.string (str []), .slice none 0 0, .map none] 0) (z0 := (Lay.zeroL sAddPartitionsToTxnRequest_3.lay, []))
                                    · apply blk_seq
                                      · apply blk_seq
                                        · apply blk_nop
                                          rfl
                                        · apply blk_get (i := 0)
                                          · apply get_uns
                                            · apply get_flex
                                              · rfl
                                              · apply get_call
                                                · exact rc_UnsafeCompactString
                                                · kernel_rfl
                                                · rfl
                                              · apply get_call
                                                · exact rc_UnsafeString
                                                · kernel_rfl
                                                · rfl
                                              · rfl
                                            · apply get_flex
                                              · rfl
                                              · apply get_call
                                                · exact rc_CompactString
                                                · kernel_rfl
                                                · rfl
                                              · apply get_call
                                                · exact rc_String
                                                · kernel_rfl
                                                · rfl
                                              · rfl
                                            · rfl
                                          · apply blkV_put
                                            · rfl
                                            · rfl
                                            · kernel_rfl
                                            · kernel_rfl
                                            · rfl
                                          · rfl
                                        · decide
                                      · apply blk_seq
                                        · apply blk_list (i := 1)
                                          · rfl
                                          · rfl
                                          · kernel_rfl
                                          · kernel_rfl
                                          · kernel_rfl
                                          · apply get_flex
                                            · rfl
                                            · apply get_call
                                              · exact rc_CompactArrayLen
                                              · kernel_rfl
                                              · rfl
                                            · apply get_call
                                              · exact rc_ArrayLen
                                              · kernel_rfl
                                              · rfl
                                            · rfl
                                          · apply ok_rule
                                            · exact rd_Ok
                                            · exact rd_Complete
                                            · kernel_rfl
                                            · kernel_rfl
                                            · rfl
                                          · apply cut_rule (sz := 1) (e := 21)
                                            · kernel_rfl
                                            · rfl
                                          · apply grow_rule (e := 21) (zs := #[.int .i32 0])
                                            · kernel_rfl
                                            · kernel_rfl
                                            · kernel_rfl
                                            · rfl
                                          · apply loop_rule
                                            · apply elem_scalar (e := 21)
                                              · apply get_call
                                                · exact rc_Int32
                                                · kernel_rfl
                                                · rfl
                                              · rfl
                                              · rfl
                                              · kernel_rfl
                                              · kernel_rfl
                                              · rfl
                                            · rfl
                                          · rfl
                                          · rfl
                                          · rfl
                                        · apply blk_if
                                          · apply tst_flex
                                            · rfl
                                            · rfl
                                          · apply blk_tag
                                            · exact readTags_spec
                                            · kernel_rfl
                                            · rfl
                                            · kernel_rfl
                                            · kernel_rfl
                                            · rfl
                                            · rfl
                                          · exact blk_skip
                                          · rfl
                                        · decide
                                      · decide
                                    · exact d_sAddPartitionsToTxnRequest_3
                                    · kernel_rfl
                                    · kernel_rfl
                                    · rfl
                                    · rfl
                                    · exact zero_ok (lay := sAddPartitionsToTxnRequest_3.lay) (tg := sAddPartitionsToTxnRequest_3.tg) (z := from' #[.string (str []), .slice none 0 0, .map none] 0) (by repeat' (first | rfl | trivial | apply And.intro)) (by rfl)
                                    · rfl
                                  · rfl
                                · rfl
                                · rfl
                                · rfl
                              · apply blk_if
                                · apply tst_flex
                                  · rfl
                                  · rfl
                                · apply blk_tag
                                  · exact readTags_spec
                                  · kernel_rfl
                                  · rfl
                                  · kernel_rfl
                                  · kernel_rfl
                                  · rfl
                                  · rfl
                                · exact blk_skip
                                · rfl
                              · decide
                            · decide
                          · decide
                        · decide
                      · decide
                    · exact d_sAddPartitionsToTxnRequest_2
                    · kernel_rfl
                    · kernel_rfl
                    · rfl
                    · rfl
                    · exact zero_ok (lay := sAddPartitionsToTxnRequest_2.lay) (tg := sAddPartitionsToTxnRequest_2.tg) (z := from' #[.string (str []), .int .i64 0, .int .i16 0, .bool false, .slice none 0 0, .map none] 0) (by repeat' (first | rfl | trivial | apply And.intro)) (by rfl)
                    · rfl
                  · rfl
                · rfl
                · rfl
                · rfl
              · exact blk_skip
              · rfl
            · apply whole_seq
              · apply blk_if
                · apply tst_flex
                  · rfl
                  · rfl
                · apply blk_tag
                  · exact readTags_spec
                  · kernel_rfl
                  · rfl
                  · kernel_rfl
                  · kernel_rfl
                  · rfl
                  · rfl
                · exact blk_skip
                · rfl
              · apply whole_end
                · exact rd_Complete
                · kernel_rfl
                · rfl
              · rfl
            · rfl
          · rfl
        · rfl
      · rfl
    · rfl
  · apply ns_read (A := [4, 5])
    · repeat' (first | (with_reducible (first | exact nse_ok | exact ns_tag | exact ns_id | exact ns_put | apply ns_skip | apply ns_list | apply ns_sub | apply ns_psub | apply nse_struct | apply ns_if | apply ns_then)) | rfl)
    · intro ver; rfl
end Go.Proofs.YtadfbhmpehnkeaaDoor
