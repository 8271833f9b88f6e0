/-
  DescribeShareGroupOffsetsRequest: how it is read.
-/
import Derived.Test.YtadfbhmpehnkeaaDoorKNs
import Derived.Test.YtadfbhmpehnkeaaDoorKMsgT
import Derived.Test.YtadfbhmpehnkeaaDoorKUu
set_option linter.unusedSimpArgs false
set_option linter.unusedVariables false
namespace Go.Proofs.YtadfbhmpehnkeaaDoor
open Go Go.RowKit

abbrev sDescribeShareGroupOffsetsRequest : St := ⟨10, .cons 0 (.int .i16) (.cons 1 (.list (.struct (.cons 0 .str (.cons 1 (.list (.struct (.cons 0 .str (.cons 1 (.list (.int .i32) 1) .nil)) (some 2) 3) 3) .nil)) (some 2) 3) 3) .nil), some 2, 3⟩
theorem d_sDescribeShareGroupOffsetsRequest : DfC Tryd.prog 121 sDescribeShareGroupOffsetsRequest (fun v => v) := by
  apply dfc_rule (N := 2) (hf := Tryd.func121) (hbody := rfl) (hN := rfl) (hres := rfl) (hN1 := by decide)
  exact dblk_skip
abbrev sDescribeShareGroupOffsetsRequest_1 : St := ⟨16, .cons 0 .str (.cons 1 (.list (.struct (.cons 0 .str (.cons 1 (.list (.int .i32) 1) .nil)) (some 2) 3) 3) .nil), some 2, 3⟩
theorem d_sDescribeShareGroupOffsetsRequest_1 : DfC Tryd.prog 178 sDescribeShareGroupOffsetsRequest_1 (fun v => v) := by
  apply dfc_rule (N := 2) (hf := Tryd.func178) (hbody := rfl) (hN := rfl) (hres := rfl) (hN1 := by decide)
  exact dblk_skip
abbrev sDescribeShareGroupOffsetsRequest_2 : St := ⟨23, .cons 0 .str (.cons 1 (.list (.int .i32) 1) .nil), some 2, 3⟩
theorem d_sDescribeShareGroupOffsetsRequest_2 : DfC Tryd.prog 179 sDescribeShareGroupOffsetsRequest_2 (fun v => v) := by
  apply dfc_rule (N := 2) (hf := Tryd.func179) (hbody := rfl) (hN := rfl) (hres := rfl) (hN1 := by decide)
  exact dblk_skip
abbrev v_DescribeShareGroupOffsetsRequest : SV := (Lay.zeroL sDescribeShareGroupOffsetsRequest.lay, ([] : Tags))
abbrev fl_DescribeShareGroupOffsetsRequest : Int → Bool := (fun ver => decide ((0 : Int) ≤ ver))
set_option maxRecDepth 100000 in
theorem read_DescribeShareGroupOffsetsRequest : ∃ ft, ReadC Tryd.prog 122 sDescribeShareGroupOffsetsRequest fl_DescribeShareGroupOffsetsRequest ft ∧ NsI ft v_DescribeShareGroupOffsetsRequest := by
  apply Exists.intro
  constructor
  · apply read_flex (m := 30) (N := 189) (hf := Tryd.func122) (hN := rfl) (hres := rfl) (hR := rdT) (h16 := by kernel_rfl) (hver := by kernel_rfl) (hlay := rfl) (hsz := rfl) (hs := rfl) (hm := by decide) (hmN := by decide)
      (hbd := by kernel_rfl) (hd := d_sDescribeShareGroupOffsetsRequest) (hd0 := fun v n h => by simpa using h) (hbody := rfl)
    apply whole_seq
    · apply blk_list (i := 1)
      · rfl
      · rfl
      · kernel_rfl
      · kernel_rfl
      · kernel_rfl
      · apply get_flex
        · rfl
        · apply get_call
          · exact rc_CompactArrayLen
          · kernel_rfl
          · rfl
        · apply get_call
          · exact rc_ArrayLen
          · kernel_rfl
          · rfl
        · rfl
      · apply ok_rule
        · exact rd_Ok
        · exact rd_Complete
        · kernel_rfl
        · kernel_rfl
        · rfl
      · apply cut_rule (sz := 3) (e := 117)
        · kernel_rfl
        · rfl
      · apply grow_rule (e := 117) (zs := #[.string (str []), .slice none 0 0, .map none])
        · kernel_rfl
        · kernel_rfl
        · kernel_rfl
        · rfl
      · apply loop_rule
        · apply elem_struct (σ := sDescribeShareGroupOffsetsRequest_1) (e := 117) (z := from' #[.string (str []), .slice none 0 0, .map none] 0) (z0 := (Lay.zeroL sDescribeShareGroupOffsetsRequest_1.lay, []))
          · apply blk_seq
            · apply blk_seq
              · apply blk_nop
                rfl
              · apply blk_get (i := 0)
                · apply get_uns
                  · apply get_flex
                    · rfl
                    · apply get_call
                      · exact rc_UnsafeCompactString
                      · kernel_rfl
                      · rfl
                    · apply get_call
                      · exact rc_UnsafeString
                      · kernel_rfl
                      · rfl
                    · rfl
                  · apply get_flex
                    · rfl
                    · apply get_call
                      · exact rc_CompactString
                      · kernel_rfl
                      · rfl
                    · apply get_call
                      · exact rc_String
                      · kernel_rfl
                      · rfl
                    · rfl
                  · rfl
                · apply blkV_put
                  · rfl
                  · rfl
                  · kernel_rfl
                  · kernel_rfl
                  · rfl
                · rfl
              · decide
            · apply blk_seq
              · apply blk_listN (i := 1)
                · rfl
                · rfl
                · kernel_rfl
                · kernel_rfl
                · kernel_rfl
                · apply get_flex
                  · rfl
                  · apply get_call
                    · exact rc_CompactArrayLen
                    · kernel_rfl
                    · rfl
                  · apply get_call
                    · exact rc_ArrayLen
                    · kernel_rfl
                    · rfl
                  · rfl
                · apply nul_rule (sz := 3) (ET := 191)
                  · kernel_rfl
                  · rfl
                · apply ok_rule
                  · exact rd_Ok
                  · exact rd_Complete
                  · kernel_rfl
                  · kernel_rfl
                  · rfl
                · apply cut_rule (sz := 3) (e := 191)
                  · kernel_rfl
                  · rfl
                · apply grow_rule (e := 191) (zs := #[.string (str []), .slice none 0 0, .map none])
                  · kernel_rfl
                  · kernel_rfl
                  · kernel_rfl
                  · rfl
                · apply loop_rule
                  · apply elem_struct (σ := sDescribeShareGroupOffsetsRequest_2) (e := 191) (z := from' #[.string (str []), .slice none 0 0, .map none] 0) (z0 := (Lay.zeroL sDescribeShareGroupOffsetsRequest_2.lay, []))
                    · apply blk_seq
                      · apply blk_seq
                        · apply blk_nop
                          rfl
                        · apply blk_get (i := 0)
                          · apply get_uns
                            · apply get_flex
                              · rfl
                              · apply get_call
                                · exact rc_UnsafeCompactString
                                · kernel_rfl
                                · rfl
                              · apply get_call
                                · exact rc_UnsafeString
                                · kernel_rfl
                                · rfl
                              · rfl
                            · apply get_flex
                              · rfl
                              · apply get_call
                                · exact rc_CompactString
                                · kernel_rfl
                                · rfl
                              · apply get_call
                                · exact rc_String
                                · kernel_rfl
                                · rfl
                              · rfl
                            · rfl
                          · apply blkV_put
                            · rfl
                            · rfl
                            · kernel_rfl
                            · kernel_rfl
                            · rfl
                          · rfl
                        · decide
                      · apply blk_seq
                        · apply blk_list (i := 1)
                          · rfl
                          · rfl
                          · kernel_rfl
                          · kernel_rfl
                          · kernel_rfl
                          · apply get_flex
                            · rfl
                            · apply get_call
                              · exact rc_CompactArrayLen
                              · kernel_rfl
                              · rfl
                            · apply get_call
                              · exact rc_ArrayLen
                              · kernel_rfl
                              · rfl
                            · rfl
                          · apply ok_rule
                            · exact rd_Ok
                            · exact rd_Complete
                            · kernel_rfl
                            · kernel_rfl
                            · rfl
                          · apply cut_rule (sz := 1) (e := 21)
                            · kernel_rfl
                            · rfl
                          · apply grow_rule (e := 21) (zs := #[.int .i32 0])
                            · kernel_rfl
                            · kernel_rfl
                            · kernel_rfl
                            · rfl
                          · apply loop_rule
                            · apply elem_scalar (e := 21)
                              · apply get_call
                                · exact rc_Int32
                                · kernel_rfl
                                · rfl
                              · rfl
                              · rfl
                              · kernel_rfl
                              · kernel_rfl
                              · rfl
                            · rfl
                          · rfl
                          · rfl
                          · rfl
                        · apply blk_if
                          · apply tst_flex
                            · rfl
                            · rfl
                          · apply blk_tag
                            · exact readTags_spec
                            · kernel_rfl
                            · rfl
                            · kernel_rfl
                            · kernel_rfl
                            · rfl
                            · rfl
                          · exact blk_skip
                          · rfl
                        · decide
                      · decide
                    · exact d_sDescribeShareGroupOffsetsRequest_2
                    · kernel_rfl
                    · kernel_rfl
                    · rfl
                    · rfl
                    · exact zero_ok (lay := sDescribeShareGroupOffsetsRequest_2.lay) (tg := sDescribeShareGroupOffsetsRequest_2.tg) (z := from' #[.string (str []), .slice none 0 0, .map none] 0) (by repeat' (first | rfl | trivial | apply And.intro)) (by rfl)
                    · rfl
                  · rfl
                · rfl
                · rfl
                · rfl
              · apply blk_if
                · apply tst_flex
                  · rfl
                  · rfl
                · apply blk_tag
                  · exact readTags_spec
                  · kernel_rfl
                  · rfl
                  · kernel_rfl
                  · kernel_rfl
                  · rfl
                  · rfl
                · exact blk_skip
                · rfl
              · decide
            · decide
          · exact d_sDescribeShareGroupOffsetsRequest_1
          · kernel_rfl
          · kernel_rfl
          · rfl
          · rfl
          · exact zero_ok (lay := sDescribeShareGroupOffsetsRequest_1.lay) (tg := sDescribeShareGroupOffsetsRequest_1.tg) (z := from' #[.string (str []), .slice none 0 0, .map none] 0) (by repeat' (first | rfl | trivial | apply And.intro)) (by rfl)
          · rfl
        · rfl
      · rfl
      · rfl
      · rfl
    · apply whole_seq
      · apply blk_if
        · apply tst_flex
          · rfl
          · rfl
        · apply blk_tag
          · exact readTags_spec
          · kernel_rfl
          · rfl
          · kernel_rfl
          · kernel_rfl
          · rfl
          · rfl
        · exact blk_skip
        · rfl
      · apply whole_end
        · exact rd_Complete
        · kernel_rfl
        · rfl
      · rfl
    · rfl
  · apply ns_read (A := [1])
    · repeat' (first | (with_reducible (first | exact nse_ok | exact ns_tag | exact ns_id | exact ns_put | apply ns_skip | apply ns_list | apply ns_sub | apply ns_psub | apply nse_struct | apply ns_if | apply ns_then)) | rfl)
    · intro ver; rfl
end Go.Proofs.YtadfbhmpehnkeaaDoor
