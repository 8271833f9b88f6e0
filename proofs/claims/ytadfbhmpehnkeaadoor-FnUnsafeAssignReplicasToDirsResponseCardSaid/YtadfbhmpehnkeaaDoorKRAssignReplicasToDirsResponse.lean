/-
  AssignReplicasToDirsResponse: how it is read.
-/
import Derived.Test.YtadfbhmpehnkeaaDoorKNs
import Derived.Test.YtadfbhmpehnkeaaDoorKMsgT
import Derived.Test.YtadfbhmpehnkeaaDoorKRv
import Derived.Test.YtadfbhmpehnkeaaDoorKUu
set_option linter.unusedSimpArgs false
set_option linter.unusedVariables false
namespace Go.Proofs.YtadfbhmpehnkeaaDoor
open Go Go.RowKit

abbrev sAssignReplicasToDirsResponse : St := ⟨10, .cons 0 (.int .i16) (.cons 1 (.int .i32) (.cons 2 (.int .i16) (.cons 3 (.list (.struct (.cons 0 .uuid (.cons 16 (.list (.struct (.cons 0 .uuid (.cons 16 (.list (.struct (.cons 0 (.int .i32) (.cons 1 (.int .i16) .nil)) (some 2) 3) 3) .nil)) (some 17) 18) 18) .nil)) (some 17) 18) 18) .nil))), some 4, 5⟩
theorem d_sAssignReplicasToDirsResponse : DfC Tryd.prog 117 sAssignReplicasToDirsResponse (fun v => v) := by
  apply dfc_rule (N := 2) (hf := Tryd.func117) (hbody := rfl) (hN := rfl) (hres := rfl) (hN1 := by decide)
  exact dblk_skip
abbrev sAssignReplicasToDirsResponse_1 : St := ⟨18, .cons 0 .uuid (.cons 16 (.list (.struct (.cons 0 .uuid (.cons 16 (.list (.struct (.cons 0 (.int .i32) (.cons 1 (.int .i16) .nil)) (some 2) 3) 3) .nil)) (some 17) 18) 18) .nil), some 17, 18⟩
theorem d_sAssignReplicasToDirsResponse_1 : DfC Tryd.prog 172 sAssignReplicasToDirsResponse_1 (fun v => v) := by
  apply dfc_rule (N := 2) (hf := Tryd.func172) (hbody := rfl) (hN := rfl) (hres := rfl) (hN1 := by decide)
  exact dblk_skip
abbrev sAssignReplicasToDirsResponse_2 : St := ⟨25, .cons 0 .uuid (.cons 16 (.list (.struct (.cons 0 (.int .i32) (.cons 1 (.int .i16) .nil)) (some 2) 3) 3) .nil), some 17, 18⟩
theorem d_sAssignReplicasToDirsResponse_2 : DfC Tryd.prog 174 sAssignReplicasToDirsResponse_2 (fun v => v) := by
  apply dfc_rule (N := 2) (hf := Tryd.func174) (hbody := rfl) (hN := rfl) (hres := rfl) (hN1 := by decide)
  exact dblk_skip
abbrev sAssignReplicasToDirsResponse_3 : St := ⟨32, .cons 0 (.int .i32) (.cons 1 (.int .i16) .nil), some 2, 3⟩
theorem d_sAssignReplicasToDirsResponse_3 : DfC Tryd.prog 175 sAssignReplicasToDirsResponse_3 (fun v => v) := by
  apply dfc_rule (N := 2) (hf := Tryd.func175) (hbody := rfl) (hN := rfl) (hres := rfl) (hN1 := by decide)
  exact dblk_skip
abbrev v_AssignReplicasToDirsResponse : SV := (Lay.zeroL sAssignReplicasToDirsResponse.lay, ([] : Tags))
abbrev fl_AssignReplicasToDirsResponse : Int → Bool := (fun ver => decide ((0 : Int) ≤ ver))
set_option maxRecDepth 100000 in
theorem read_AssignReplicasToDirsResponse : ∃ ft, ReadC Tryd.prog 118 sAssignReplicasToDirsResponse fl_AssignReplicasToDirsResponse ft ∧ NsI ft v_AssignReplicasToDirsResponse := by
  apply Exists.intro
  constructor
  · apply read_flex (m := 35) (N := 201) (hf := Tryd.func118) (hN := rfl) (hres := rfl) (hR := rdT) (h16 := by kernel_rfl) (hver := by kernel_rfl) (hlay := rfl) (hsz := rfl) (hs := rfl) (hm := by decide) (hmN := by decide)
      (hbd := by kernel_rfl) (hd := d_sAssignReplicasToDirsResponse) (hd0 := fun v n h => by simpa using h) (hbody := rfl)
    apply whole_seq
    · apply blk_get (i := 1)
      · apply get_call
        · exact rc_Int32
        · kernel_rfl
        · rfl
      · apply blkV_put
        · rfl
        · rfl
        · kernel_rfl
        · kernel_rfl
        · rfl
      · rfl
    · apply whole_seq
      · apply blk_get (i := 2)
        · apply get_call
          · exact rc_Int16
          · kernel_rfl
          · rfl
        · apply blkV_put
          · rfl
          · rfl
          · kernel_rfl
          · kernel_rfl
          · rfl
        · rfl
      · apply whole_seq
        · apply blk_list (i := 3)
          · rfl
          · rfl
          · kernel_rfl
          · kernel_rfl
          · kernel_rfl
          · apply get_flex
            · rfl
            · apply get_call
              · exact rc_CompactArrayLen
              · kernel_rfl
              · rfl
            · apply get_call
              · exact rc_ArrayLen
              · kernel_rfl
              · rfl
            · rfl
          · apply ok_rule
            · exact rd_Ok
            · exact rd_Complete
            · kernel_rfl
            · kernel_rfl
            · rfl
          · apply cut_rule (sz := 18) (e := 109)
            · kernel_rfl
            · rfl
          · apply grow_rule (e := 109) (zs := #[.int .u8 0, .int .u8 0, .int .u8 0, .int .u8 0, .int .u8 0, .int .u8 0, .int .u8 0, .int .u8 0, .int .u8 0, .int .u8 0, .int .u8 0, .int .u8 0, .int .u8 0, .int .u8 0, .int .u8 0, .int .u8 0, .slice none 0 0, .map none])
            · kernel_rfl
            · kernel_rfl
            · kernel_rfl
            · rfl
          · apply loop_rule
            · apply elem_struct (σ := sAssignReplicasToDirsResponse_1) (e := 109) (z := from' #[.int .u8 0, .int .u8 0, .int .u8 0, .int .u8 0, .int .u8 0, .int .u8 0, .int .u8 0, .int .u8 0, .int .u8 0, .int .u8 0, .int .u8 0, .int .u8 0, .int .u8 0, .int .u8 0, .int .u8 0, .int .u8 0, .slice none 0 0, .map none] 0) (z0 := (Lay.zeroL sAssignReplicasToDirsResponse_1.lay, []))
              · apply blk_seq
                · apply blk_uuid (i := 0)
                  · exact rc_Uuid
                  · kernel_rfl
                  · kernel_rfl
                  · exact zeroU
                  · kernel_rfl
                  · rfl
                  · rfl
                  · kernel_rfl
                  · rfl
                · apply blk_seq
                  · apply blk_list (i := 1)
                    · rfl
                    · rfl
                    · kernel_rfl
                    · kernel_rfl
                    · kernel_rfl
                    · apply get_flex
                      · rfl
                      · apply get_call
                        · exact rc_CompactArrayLen
                        · kernel_rfl
                        · rfl
                      · apply get_call
                        · exact rc_ArrayLen
                        · kernel_rfl
                        · rfl
                      · rfl
                    · apply ok_rule
                      · exact rd_Ok
                      · exact rd_Complete
                      · kernel_rfl
                      · kernel_rfl
                      · rfl
                    · apply cut_rule (sz := 18) (e := 185)
                      · kernel_rfl
                      · rfl
                    · apply grow_rule (e := 185) (zs := #[.int .u8 0, .int .u8 0, .int .u8 0, .int .u8 0, .int .u8 0, .int .u8 0, .int .u8 0, .int .u8 0, .int .u8 0, .int .u8 0, .int .u8 0, .int .u8 0, .int .u8 0, .int .u8 0, .int .u8 0, .int .u8 0, .slice none 0 0, .map none])
                      · kernel_rfl
                      · kernel_rfl
                      · kernel_rfl
                      · rfl
                    · apply loop_rule
                      · apply elem_struct (σ := sAssignReplicasToDirsResponse_2) (e := 185) (z := from' #[.int .u8 0, .int .u8 0, .int .u8 0, .int .u8 0, .int .u8 0, .int .u8 0, .int .u8 0, .int .u8 0, .int .u8 0, .int .u8 0, .int .u8 0, .int .u8 0, .int .u8 0, .int .u8 0, .int .u8 0, .int .u8 0, .slice none 0 0, .map none] 0) (z0 := (Lay.zeroL sAssignReplicasToDirsResponse_2.lay, []))
                        · apply blk_seq
                          · apply blk_uuid (i := 0)
                            · exact rc_Uuid
                            · kernel_rfl
                            · kernel_rfl
                            · exact zeroU
                            · kernel_rfl
                            · rfl
                            · rfl
                            · kernel_rfl
                            · rfl
                          · apply blk_seq
                            · apply blk_list (i := 1)
                              · rfl
                              · rfl
                              · kernel_rfl
                              · kernel_rfl
                              · kernel_rfl
                              · apply get_flex
                                · rfl
                                · apply get_call
                                  · exact rc_CompactArrayLen
                                  · kernel_rfl
                                  · rfl
                                · apply get_call
                                  · exact rc_ArrayLen
                                  · kernel_rfl
                                  · rfl
                                · rfl
                              · apply ok_rule
                                · exact rd_Ok
                                · exact rd_Complete
                                · kernel_rfl
                                · kernel_rfl
                                · rfl
                              · apply cut_rule (sz := 3) (e := 188)
                                · kernel_rfl
                                · rfl
                              · apply grow_rule (e := 188) (zs := #[.int .i32 0, .int .i16 0, .map none])
                                · kernel_rfl
                                · kernel_rfl
                                · kernel_rfl
                                · rfl
                              · apply loop_rule
                                · apply elem_struct (σ := sAssignReplicasToDirsResponse_3) (e := 188) (z := from' #[.int .i32 0, .int .i16 0, .map none] 0) (z0 := (Lay.zeroL sAssignReplicasToDirsResponse_3.lay, []))
                                  · apply blk_seq
                                    · apply blk_get (i := 0)
                                      · apply get_call
                                        · exact rc_Int32
                                        · kernel_rfl
                                        · rfl
                                      · apply blkV_put
                                        · rfl
                                        · rfl
                                        · kernel_rfl
                                        · kernel_rfl
                                        · rfl
                                      · rfl
                                    · apply blk_seq
                                      · apply blk_get (i := 1)
                                        · apply get_call
                                          · exact rc_Int16
                                          · kernel_rfl
                                          · rfl
                                        · apply blkV_put
                                          · rfl
                                          · rfl
                                          · kernel_rfl
                                          · kernel_rfl
                                          · rfl
                                        · rfl
                                      · apply blk_if
                                        · apply tst_flex
                                          · rfl
                                          · rfl
                                        · apply blk_tag
                                          · exact readTags_spec
                                          · kernel_rfl
                                          · rfl
                                          · kernel_rfl
                                          · kernel_rfl
                                          · rfl
                                          · rfl
                                        · exact blk_skip
                                        · rfl
                                      · decide
                                    · decide
                                  · exact d_sAssignReplicasToDirsResponse_3
                                  · kernel_rfl
                                  · kernel_rfl
                                  · rfl
                                  · rfl
                                  · exact zero_ok (lay := sAssignReplicasToDirsResponse_3.lay) (tg := sAssignReplicasToDirsResponse_3.tg) (z := from' #[.int .i32 0, .int .i16 0, .map none] 0) (by repeat' (first | rfl | trivial | apply And.intro)) (by rfl)
                                  · rfl
                                · rfl
                              · rfl
                              · rfl
                              · rfl
                            · apply blk_if
                              · apply tst_flex
                                · rfl
                                · rfl
                              · apply blk_tag
                                · exact readTags_spec
                                · kernel_rfl
                                · rfl
                                · kernel_rfl
                                · kernel_rfl
                                · rfl
                                · rfl
                              · exact blk_skip
                              · rfl
                            · decide
                          · decide
                        · exact d_sAssignReplicasToDirsResponse_2
                        · kernel_rfl
                        · kernel_rfl
                        · rfl
                        · rfl
                        · exact zero_ok (lay := sAssignReplicasToDirsResponse_2.lay) (tg := sAssignReplicasToDirsResponse_2.tg) (z := from' #[.int .u8 0, .int .u8 0, .int .u8 0, .int .u8 0, .int .u8 0, .int .u8 0, .int .u8 0, .int .u8 0, .int .u8 0, .int .u8 0, .int .u8 0, .int .u8 0, .int .u8 0, .int .u8 0, .int .u8 0, .int .u8 0, .slice none 0 0, .map none] 0) (by repeat' (first | rfl | trivial | apply And.intro)) (by rfl)
                        · rfl
                      · rfl
                    · rfl
                    · rfl
                    · rfl
                  · apply blk_if
                    · apply tst_flex
                      · rfl
                      · rfl
                    · apply blk_tag
                      · exact readTags_spec
                      · kernel_rfl
                      · rfl
                      · kernel_rfl
                      · kernel_rfl
                      · rfl
                      · rfl
                    · exact blk_skip
                    · rfl
                  · decide
                · decide
              · exact d_sAssignReplicasToDirsResponse_1
              · kernel_rfl
              · kernel_rfl
              · rfl
              · rfl
              · exact zero_ok (lay := sAssignReplicasToDirsResponse_1.lay) (tg := sAssignReplicasToDirsResponse_1.tg) (z := from' #[.int .u8 0, .int .u8 0, .int .u8 0, .int .u8 0, .int .u8 0, .int .u8 0, .int .u8 0, .int .u8 0, .int .u8 0, .int .u8 0, .int .u8 0, .int .u8 0, .int .u8 0, .int .u8 0, .int .u8 0, .int .u8 0, .slice none 0 0, .map none] 0) (by repeat' (first | rfl | trivial | apply And.intro)) (by rfl)
              · rfl
            · rfl
          · rfl
          · rfl
          · rfl
        · apply whole_seq
          · apply blk_if
            · apply tst_flex
              · rfl
              · rfl
            · apply blk_tag
              · exact readTags_spec
              · kernel_rfl
              · rfl
              · kernel_rfl
              · kernel_rfl
              · rfl
              · rfl
            · exact blk_skip
            · rfl
          · apply whole_end
            · exact rd_Complete
            · kernel_rfl
            · rfl
          · rfl
        · rfl
      · rfl
    · rfl
  · apply ns_read (A := [3])
    · repeat' (first | (with_reducible (first | exact nse_ok | exact ns_tag | exact ns_id | exact ns_put | apply ns_skip | apply ns_list | apply ns_sub | apply nse_struct | apply ns_if | apply ns_then)) | rfl)
    · intro ver; rfl
end Go.Proofs.YtadfbhmpehnkeaaDoor
