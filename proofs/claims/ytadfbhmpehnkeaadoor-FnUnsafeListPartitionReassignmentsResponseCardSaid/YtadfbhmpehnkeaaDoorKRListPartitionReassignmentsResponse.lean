/-
  ListPartitionReassignmentsResponse: how it is read.
-/
import Derived.Test.YtadfbhmpehnkeaaDoorKNs
import Derived.Test.YtadfbhmpehnkeaaDoorKMsgT
import Derived.Test.YtadfbhmpehnkeaaDoorKUu
set_option linter.unusedSimpArgs false
set_option linter.unusedVariables false
namespace Go.Proofs.YtadfbhmpehnkeaaDoor
open Go Go.RowKit

abbrev sListPartitionReassignmentsResponse : St := ⟨10, .cons 0 (.int .i16) (.cons 1 (.int .i32) (.cons 2 (.int .i16) (.cons 3 .pstr (.cons 4 (.list (.struct (.cons 0 .str (.cons 1 (.list (.struct (.cons 0 (.int .i32) (.cons 1 (.list (.int .i32) 1) (.cons 2 (.list (.int .i32) 1) (.cons 3 (.list (.int .i32) 1) .nil)))) (some 4) 5) 5) .nil)) (some 2) 3) 3) .nil)))), some 5, 6⟩
theorem d_sListPartitionReassignmentsResponse : DfC Tryd.prog 139 sListPartitionReassignmentsResponse (fun v => v) := by
  apply dfc_rule (N := 2) (hf := Tryd.func139) (hbody := rfl) (hN := rfl) (hres := rfl) (hN1 := by decide)
  exact dblk_skip
abbrev sListPartitionReassignmentsResponse_1 : St := ⟨19, .cons 0 .str (.cons 1 (.list (.struct (.cons 0 (.int .i32) (.cons 1 (.list (.int .i32) 1) (.cons 2 (.list (.int .i32) 1) (.cons 3 (.list (.int .i32) 1) .nil)))) (some 4) 5) 5) .nil), some 2, 3⟩
theorem d_sListPartitionReassignmentsResponse_1 : DfC Tryd.prog 191 sListPartitionReassignmentsResponse_1 (fun v => v) := by
  apply dfc_rule (N := 2) (hf := Tryd.func191) (hbody := rfl) (hN := rfl) (hres := rfl) (hN1 := by decide)
  exact dblk_skip
abbrev sListPartitionReassignmentsResponse_2 : St := ⟨26, .cons 0 (.int .i32) (.cons 1 (.list (.int .i32) 1) (.cons 2 (.list (.int .i32) 1) (.cons 3 (.list (.int .i32) 1) .nil))), some 4, 5⟩
theorem d_sListPartitionReassignmentsResponse_2 : DfC Tryd.prog 192 sListPartitionReassignmentsResponse_2 (fun v => v) := by
  apply dfc_rule (N := 2) (hf := Tryd.func192) (hbody := rfl) (hN := rfl) (hres := rfl) (hN1 := by decide)
  exact dblk_skip
abbrev v_ListPartitionReassignmentsResponse : SV := (Lay.zeroL sListPartitionReassignmentsResponse.lay, ([] : Tags))
abbrev fl_ListPartitionReassignmentsResponse : Int → Bool := (fun ver => decide ((0 : Int) ≤ ver))
set_option maxRecDepth 100000 in
theorem read_ListPartitionReassignmentsResponse : ∃ ft, ReadC Tryd.prog 140 sListPartitionReassignmentsResponse fl_ListPartitionReassignmentsResponse ft ∧ NsI ft v_ListPartitionReassignmentsResponse := by
  apply Exists.intro
  constructor
  · apply read_flex (m := 43) (N := 276) (hf := Tryd.func140) (hN := rfl) (hres := rfl) (hR := rdT) (h16 := by kernel_rfl) (hver := by kernel_rfl) (hlay := rfl) (hsz := rfl) (hs := rfl) (hm := by decide) (hmN := by decide)
      (hbd := by kernel_rfl) (hd := d_sListPartitionReassignmentsResponse) (hd0 := fun v n h => by simpa using h) (hbody := rfl)
    apply whole_seq
    · apply blk_get (i := 1)
      · apply get_call
        · exact rc_Int32
        · kernel_rfl
        · rfl
      · apply blkV_put
        · rfl
        · rfl
        · kernel_rfl
        · kernel_rfl
        · rfl
      · rfl
    · apply whole_seq
      · apply blk_get (i := 2)
        · apply get_call
          · exact rc_Int16
          · kernel_rfl
          · rfl
        · apply blkV_put
          · rfl
          · rfl
          · kernel_rfl
          · kernel_rfl
          · rfl
        · rfl
      · apply whole_seq
        · apply blk_seq
          · apply blk_nop
            rfl
          · apply blk_get (i := 3)
            · apply get_flex
              · rfl
              · apply get_uns
                · apply get_call
                  · exact rc_UnsafeCompactNullableString
                  · kernel_rfl
                  · rfl
                · apply get_call
                  · exact rc_CompactNullableString
                  · kernel_rfl
                  · rfl
                · rfl
              · apply get_uns
                · apply get_call
                  · exact rc_UnsafeNullableString
                  · kernel_rfl
                  · rfl
                · apply get_call
                  · exact rc_NullableString
                  · kernel_rfl
                  · rfl
                · rfl
              · rfl
            · apply blkV_put
              · rfl
              · rfl
              · kernel_rfl
              · kernel_rfl
              · rfl
            · rfl
          · decide
        · apply whole_seq
          · apply blk_list (i := 4)
            · rfl
            · rfl
            · kernel_rfl
            · kernel_rfl
            · kernel_rfl
            · apply get_flex
              · rfl
              · apply get_call
                · exact rc_CompactArrayLen
                · kernel_rfl
                · rfl
              · apply get_call
                · exact rc_ArrayLen
                · kernel_rfl
                · rfl
              · rfl
            · apply ok_rule
              · exact rd_Ok
              · exact rd_Complete
              · kernel_rfl
              · kernel_rfl
              · rfl
            · apply cut_rule (sz := 3) (e := 150)
              · kernel_rfl
              · rfl
            · apply grow_rule (e := 150) (zs := #[.string (str []), .slice none 0 0, .map none])
              · kernel_rfl
              · kernel_rfl
              · kernel_rfl
              · rfl
            · apply loop_rule
              · apply elem_struct (σ := sListPartitionReassignmentsResponse_1) (e := 150) (z := from' #[.string (str []), .slice none 0 0, .map none] 0) (z0 := (Lay.zeroL sListPartitionReassignmentsResponse_1.lay, []))
                · apply blk_seq
                  · apply blk_seq
                    · apply blk_nop
                      rfl
                    · apply blk_get (i := 0)
                      · apply get_uns
                        · apply get_flex
                          · rfl
                          · apply get_call
                            · exact rc_UnsafeCompactString
                            · kernel_rfl
                            · rfl
                          · apply get_call
                            · exact rc_UnsafeString
                            · kernel_rfl
                            · rfl
                          · rfl
                        · apply get_flex
                          · rfl
                          · apply get_call
                            · exact rc_CompactString
                            · kernel_rfl
                            · rfl
                          · apply get_call
                            · exact rc_String
                            · kernel_rfl
                            · rfl
                          · rfl
                        · rfl
                      · apply blkV_put
                        · rfl
                        · rfl
                        · kernel_rfl
                        · kernel_rfl
                        · rfl
                      · rfl
                    · decide
                  · apply blk_seq
                    · apply blk_list (i := 1)
                      · rfl
                      · rfl
                      · kernel_rfl
                      · kernel_rfl
                      · kernel_rfl
                      · apply get_flex
                        · rfl
                        · apply get_call
                          · exact rc_CompactArrayLen
                          · kernel_rfl
                          · rfl
                        · apply get_call
                          · exact rc_ArrayLen
                          · kernel_rfl
                          · rfl
                        · rfl
                      · apply ok_rule
                        · exact rd_Ok
                        · exact rd_Complete
                        · kernel_rfl
                        · kernel_rfl
                        · rfl
                      · apply cut_rule (sz := 5) (e := 203)
                        · kernel_rfl
                        · rfl
                      · apply grow_rule (e := 203) (zs := #[.int .i32 0, .slice none 0 0, .slice none 0 0, .slice none 0 0, .map none])
                        · kernel_rfl
                        · kernel_rfl
                        · kernel_rfl
                        · rfl
                      · apply loop_rule
                        · apply elem_struct (σ := sListPartitionReassignmentsResponse_2) (e := 203) (z := from' #[.int .i32 0, .slice none 0 0, .slice none 0 0, .slice none 0 0, .map none] 0) (z0 := (Lay.zeroL sListPartitionReassignmentsResponse_2.lay, []))
                          · apply blk_seq
                            · apply blk_get (i := 0)
                              · apply get_call
                                · exact rc_Int32
                                · kernel_rfl
                                · rfl
                              · apply blkV_put
                                · rfl
                                · rfl
                                · kernel_rfl
                                · kernel_rfl
                                · rfl
                              · rfl
                            · apply blk_seq
                              · apply blk_list (i := 1)
                                · rfl
                                · rfl
                                · kernel_rfl
                                · kernel_rfl
                                · kernel_rfl
                                · apply get_flex
                                  · rfl
                                  · apply get_call
                                    · exact rc_CompactArrayLen
                                    · kernel_rfl
                                    · rfl
                                  · apply get_call
                                    · exact rc_ArrayLen
                                    · kernel_rfl
                                    · rfl
                                  · rfl
                                · apply ok_rule
                                  · exact rd_Ok
                                  · exact rd_Complete
                                  · kernel_rfl
                                  · kernel_rfl
                                  · rfl
                                · apply cut_rule (sz := 1) (e := 21)
                                  · kernel_rfl
                                  · rfl
                                · apply grow_rule (e := 21) (zs := #[.int .i32 0])
                                  · kernel_rfl
                                  · kernel_rfl
                                  · kernel_rfl
                                  · rfl
                                · apply loop_rule
                                  · apply elem_scalar (e := 21)
                                    · apply get_call
                                      · exact rc_Int32
                                      · kernel_rfl
                                      · rfl
                                    · rfl
                                    · rfl
                                    · kernel_rfl
                                    · kernel_rfl
                                    · rfl
                                  · rfl
                                · rfl
                                · rfl
                                · rfl
                              · apply blk_seq
                                · apply blk_list (i := 2)
                                  · rfl
                                  · rfl
                                  · kernel_rfl
                                  · kernel_rfl
                                  · kernel_rfl
                                  · apply get_flex
                                    · rfl
                                    · apply get_call
                                      · exact rc_CompactArrayLen
                                      · kernel_rfl
                                      · rfl
                                    · apply get_call
                                      · exact rc_ArrayLen
                                      · kernel_rfl
                                      · rfl
                                    · rfl
                                  · apply ok_rule
                                    · exact rd_Ok
                                    · exact rd_Complete
                                    · kernel_rfl
                                    · kernel_rfl
                                    · rfl
                                  · apply cut_rule (sz := 1) (e := 21)
                                    · kernel_rfl
                                    · rfl
                                  · apply grow_rule (e := 21) (zs := #[.int .i32 0])
                                    · kernel_rfl
                                    · kernel_rfl
                                    · kernel_rfl
                                    · rfl
                                  · apply loop_rule
                                    · apply elem_scalar (e := 21)
                                      · apply get_call
                                        · exact rc_Int32
                                        · kernel_rfl
                                        · rfl
                                      · rfl
                                      · rfl
                                      · kernel_rfl
                                      · kernel_rfl
                                      · rfl
                                    · rfl
                                  · rfl
                                  · rfl
                                  · rfl
                                · apply blk_seq
                                  · apply blk_list (i := 3)
                                    · rfl
                                    · rfl
                                    · kernel_rfl
                                    · kernel_rfl
                                    · kernel_rfl
                                    · apply get_flex
                                      · rfl
                                      · apply get_call
                                        · exact rc_CompactArrayLen
                                        · kernel_rfl
                                        · rfl
                                      · apply get_call
                                        · exact rc_ArrayLen
                                        · kernel_rfl
                                        · rfl
                                      · rfl
                                    · apply ok_rule
                                      · exact rd_Ok
                                      · exact rd_Complete
                                      · kernel_rfl
                                      · kernel_rfl
                                      · rfl
                                    · apply cut_rule (sz := 1) (e := 21)
                                      · kernel_rfl
                                      · rfl
                                    · apply grow_rule (e := 21) (zs := #[.int .i32 0])
                                      · kernel_rfl
                                      · kernel_rfl
                                      · kernel_rfl
                                      · rfl
                                    · apply loop_rule
                                      · apply elem_scalar (e := 21)
                                        · apply get_call
                                          · exact rc_Int32
                                          · kernel_rfl
                                          · rfl
                                        · rfl
                                        · rfl
                                        · kernel_rfl
                                        · kernel_rfl
                                        · rfl
                                      · rfl
                                    · rfl
                                    · rfl
                                    · rfl
                                  · apply blk_if
                                    · apply tst_flex
                                      · rfl
                                      · rfl
                                    · apply blk_tag
                                      · exact readTags_spec
                                      · kernel_rfl
                                      · rfl
                                      · kernel_rfl
                                      · kernel_rfl
                                      · rfl
                                      · rfl
                                    · exact blk_skip
                                    · rfl
                                  · decide
                                · decide
                              · decide
                            · decide
                          · exact d_sListPartitionReassignmentsResponse_2
                          · kernel_rfl
                          · kernel_rfl
                          · rfl
                          · rfl
                          · exact zero_ok (lay := sListPartitionReassignmentsResponse_2.lay) (tg := sListPartitionReassignmentsResponse_2.tg) (z := from' #[.int .i32 0, .slice none 0 0, .slice none 0 0, .slice none 0 0, .map none] 0) (by repeat' (first | rfl | trivial | apply And.intro)) (by rfl)
                          · rfl
                        · rfl
                      · rfl
                      · rfl
                      · rfl
                    · apply blk_if
                      · apply tst_flex
                        · rfl
                        · rfl
                      · apply blk_tag
                        · exact readTags_spec
                        · kernel_rfl
                        · rfl
                        · kernel_rfl
                        · kernel_rfl
                        · rfl
                        · rfl
                      · exact blk_skip
                      · rfl
                    · decide
                  · decide
                · exact d_sListPartitionReassignmentsResponse_1
                · kernel_rfl
                · kernel_rfl
                · rfl
                · rfl
                · exact zero_ok (lay := sListPartitionReassignmentsResponse_1.lay) (tg := sListPartitionReassignmentsResponse_1.tg) (z := from' #[.string (str []), .slice none 0 0, .map none] 0) (by repeat' (first | rfl | trivial | apply And.intro)) (by rfl)
                · rfl
              · rfl
            · rfl
            · rfl
            · rfl
          · apply whole_seq
            · apply blk_if
              · apply tst_flex
                · rfl
                · rfl
              · apply blk_tag
                · exact readTags_spec
                · kernel_rfl
                · rfl
                · kernel_rfl
                · kernel_rfl
                · rfl
                · rfl
              · exact blk_skip
              · rfl
            · apply whole_end
              · exact rd_Complete
              · kernel_rfl
              · rfl
            · rfl
          · rfl
        · rfl
      · rfl
    · rfl
  · apply ns_read (A := [4])
    · repeat' (first | (with_reducible (first | exact nse_ok | exact ns_tag | exact ns_id | exact ns_put | apply ns_skip | apply ns_list | apply ns_sub | apply ns_psub | apply nse_struct | apply ns_if | apply ns_then)) | rfl)
    · intro ver; rfl
end Go.Proofs.YtadfbhmpehnkeaaDoor
