/-
  DeleteACLsRequest: how it is read.
-/
import Derived.Test.YtadfbhmpehnkeaaDoorKNs
import Derived.Test.YtadfbhmpehnkeaaDoorKMsgT
import Derived.Test.YtadfbhmpehnkeaaDoorKRv
import Derived.Test.YtadfbhmpehnkeaaDoorKUu
set_option linter.unusedSimpArgs false
set_option linter.unusedVariables false
namespace Go.Proofs.YtadfbhmpehnkeaaDoor
open Go Go.RowKit

abbrev sDeleteACLsRequest : St := ⟨10, .cons 0 (.int .i16) (.cons 1 (.list (.struct (.cons 0 (.int .i8) (.cons 1 .pstr (.cons 2 (.int .i8) (.cons 3 .pstr (.cons 4 .pstr (.cons 5 (.int .i8) (.cons 6 (.int .i8) .nil))))))) (some 7) 8) 8) .nil), some 2, 3⟩
theorem d_sDeleteACLsRequest : DfC Tryd.prog 130 sDeleteACLsRequest (fun v => v) := by
  apply dfc_rule (N := 2) (hf := Tryd.func130) (hbody := rfl) (hN := rfl) (hres := rfl) (hN1 := by decide)
  exact dblk_skip
abbrev sDeleteACLsRequest_1 : St := ⟨16, .cons 0 (.int .i8) (.cons 1 .pstr (.cons 2 (.int .i8) (.cons 3 .pstr (.cons 4 .pstr (.cons 5 (.int .i8) (.cons 6 (.int .i8) .nil)))))), some 7, 8⟩
theorem d_sDeleteACLsRequest_1 : DfC Tryd.prog 185 sDeleteACLsRequest_1 (fun v => ((v).1.set 2 (.num (3)), (v).2)) := by
  apply dfc_rule (N := 5) (hf := Tryd.func185) (hbody := rfl) (hN := rfl) (hres := rfl) (hN1 := by decide)
  apply dblk_set (i := 2) (u := .num (3)) (hat := rfl) (hok := by rfl) (h1 := rfl) (hf := by kernel_rfl) (hsz := by kernel_rfl) (hval := rfl) (hrep := fun w F => by simp only [Rep]; exact ⟨_, rfl, by simp [fits, IntKind.min, IntKind.max, IntKind.signed, IntKind.bits], rfl⟩) (hs := by rfl)
abbrev v_DeleteACLsRequest : SV := (Lay.zeroL sDeleteACLsRequest.lay, ([] : Tags))
abbrev fl_DeleteACLsRequest : Int → Bool := (fun ver => decide ((2 : Int) ≤ ver))
set_option maxRecDepth 100000 in
theorem read_DeleteACLsRequest : ∃ ft, ReadC Tryd.prog 131 sDeleteACLsRequest fl_DeleteACLsRequest ft ∧ NsI ft v_DeleteACLsRequest := by
  apply Exists.intro
  constructor
  · apply read_flex (m := 32) (N := 153) (hf := Tryd.func131) (hN := rfl) (hres := rfl) (hR := rdT) (h16 := by kernel_rfl) (hver := by kernel_rfl) (hlay := rfl) (hsz := rfl) (hs := rfl) (hm := by decide) (hmN := by decide)
      (hbd := by kernel_rfl) (hd := d_sDeleteACLsRequest) (hd0 := fun v n h => by simpa using h) (hbody := rfl)
    apply whole_seq
    · apply blk_list (i := 1)
      · rfl
      · rfl
      · kernel_rfl
      · kernel_rfl
      · kernel_rfl
      · apply get_flex
        · rfl
        · apply get_call
          · exact rc_CompactArrayLen
          · kernel_rfl
          · rfl
        · apply get_call
          · exact rc_ArrayLen
          · kernel_rfl
          · rfl
        · rfl
      · apply ok_rule
        · exact rd_Ok
        · exact rd_Complete
        · kernel_rfl
        · kernel_rfl
        · rfl
      · apply cut_rule (sz := 8) (e := 137)
        · kernel_rfl
        · rfl
      · apply grow_rule (e := 137) (zs := #[.int .i8 0, .pointer none, .int .i8 0, .pointer none, .pointer none, .int .i8 0, .int .i8 0, .map none])
        · kernel_rfl
        · kernel_rfl
        · kernel_rfl
        · rfl
      · apply loop_rule
        · apply elem_struct (σ := sDeleteACLsRequest_1) (e := 137) (z := from' #[.int .i8 0, .pointer none, .int .i8 0, .pointer none, .pointer none, .int .i8 0, .int .i8 0, .map none] 0) (z0 := (Lay.zeroL sDeleteACLsRequest_1.lay, []))
          · apply blk_seq
            · apply blk_seq
              · apply blk_nop
                rfl
              · apply blk_get (i := 0)
                · apply get_move
                  · apply get_call
                    · exact rc_Int8
                    · kernel_rfl
                    · rfl
                  · rfl
                · apply blkV_move
                  · apply blkV_put
                    · rfl
                    · rfl
                    · kernel_rfl
                    · kernel_rfl
                    · rfl
                  · rfl
                · rfl
              · decide
            · apply blk_seq
              · apply blk_seq
                · apply blk_nop
                  rfl
                · apply blk_get (i := 1)
                  · apply get_flex
                    · rfl
                    · apply get_uns
                      · apply get_call
                        · exact rc_UnsafeCompactNullableString
                        · kernel_rfl
                        · rfl
                      · apply get_call
                        · exact rc_CompactNullableString
                        · kernel_rfl
                        · rfl
                      · rfl
                    · apply get_uns
                      · apply get_call
                        · exact rc_UnsafeNullableString
                        · kernel_rfl
                        · rfl
                      · apply get_call
                        · exact rc_NullableString
                        · kernel_rfl
                        · rfl
                      · rfl
                    · rfl
                  · apply blkV_put
                    · rfl
                    · rfl
                    · kernel_rfl
                    · kernel_rfl
                    · rfl
                  · rfl
                · decide
              · apply blk_seq
                · apply blk_if
                  · apply tst_geq
                    rfl
                  · apply blk_seq
                    · apply blk_nop
                      rfl
                    · apply blk_get (i := 2)
                      · apply get_move
                        · apply get_call
                          · exact rc_Int8
                          · kernel_rfl
                          · rfl
                        · rfl
                      · apply blkV_move
                        · apply blkV_put
                          · rfl
                          · rfl
                          · kernel_rfl
                          · kernel_rfl
                          · rfl
                        · rfl
                      · rfl
                    · decide
                  · exact blk_skip
                  · rfl
                · apply blk_seq
                  · apply blk_seq
                    · apply blk_nop
                      rfl
                    · apply blk_get (i := 3)
                      · apply get_flex
                        · rfl
                        · apply get_uns
                          · apply get_call
                            · exact rc_UnsafeCompactNullableString
                            · kernel_rfl
                            · rfl
                          · apply get_call
                            · exact rc_CompactNullableString
                            · kernel_rfl
                            · rfl
                          · rfl
                        · apply get_uns
                          · apply get_call
                            · exact rc_UnsafeNullableString
                            · kernel_rfl
                            · rfl
                          · apply get_call
                            · exact rc_NullableString
                            · kernel_rfl
                            · rfl
                          · rfl
                        · rfl
                      · apply blkV_put
                        · rfl
                        · rfl
                        · kernel_rfl
                        · kernel_rfl
                        · rfl
                      · rfl
                    · decide
                  · apply blk_seq
                    · apply blk_seq
                      · apply blk_nop
                        rfl
                      · apply blk_get (i := 4)
                        · apply get_flex
                          · rfl
                          · apply get_uns
                            · apply get_call
                              · exact rc_UnsafeCompactNullableString
                              · kernel_rfl
                              · rfl
                            · apply get_call
                              · exact rc_CompactNullableString
                              · kernel_rfl
                              · rfl
                            · rfl
                          · apply get_uns
                            · apply get_call
                              · exact rc_UnsafeNullableString
                              · kernel_rfl
                              · rfl
                            · apply get_call
                              · exact rc_NullableString
                              · kernel_rfl
                              · rfl
                            · rfl
                          · rfl
                        · apply blkV_put
                          · rfl
                          · rfl
                          · kernel_rfl
                          · kernel_rfl
                          · rfl
                        · rfl
                      · decide
                    · apply blk_seq
                      · apply blk_seq
                        · apply blk_nop
                          rfl
                        · apply blk_get (i := 5)
                          · apply get_move
                            · apply get_call
                              · exact rc_Int8
                              · kernel_rfl
                              · rfl
                            · rfl
                          · apply blkV_move
                            · apply blkV_put
                              · rfl
                              · rfl
                              · kernel_rfl
                              · kernel_rfl
                              · rfl
                            · rfl
                          · rfl
                        · decide
                      · apply blk_seq
                        · apply blk_seq
                          · apply blk_nop
                            rfl
                          · apply blk_get (i := 6)
                            · apply get_move
                              · apply get_call
                                · exact rc_Int8
                                · kernel_rfl
                                · rfl
                              · rfl
                            · apply blkV_move
                              · apply blkV_put
                                · rfl
                                · rfl
                                · kernel_rfl
                                · kernel_rfl
                                · rfl
                              · rfl
                            · rfl
                          · decide
                        · apply blk_if
                          · apply tst_flex
                            · rfl
                            · rfl
                          · apply blk_tag
                            · exact readTags_spec
                            · kernel_rfl
                            · rfl
                            · kernel_rfl
                            · kernel_rfl
                            · rfl
                            · rfl
                          · exact blk_skip
                          · rfl
                        · decide
                      · decide
                    · decide
                  · decide
                · decide
              · decide
            · decide
          · exact d_sDeleteACLsRequest_1
          · kernel_rfl
          · kernel_rfl
          · rfl
          · rfl
          · exact zero_ok (lay := sDeleteACLsRequest_1.lay) (tg := sDeleteACLsRequest_1.tg) (z := from' #[.int .i8 0, .pointer none, .int .i8 0, .pointer none, .pointer none, .int .i8 0, .int .i8 0, .map none] 0) (by repeat' (first | rfl | trivial | apply And.intro)) (by rfl)
          · rfl
        · rfl
      · rfl
      · rfl
      · rfl
    · apply whole_seq
      · apply blk_if
        · apply tst_flex
          · rfl
          · rfl
        · apply blk_tag
          · exact readTags_spec
          · kernel_rfl
          · rfl
          · kernel_rfl
          · kernel_rfl
          · rfl
          · rfl
        · exact blk_skip
        · rfl
      · apply whole_end
        · exact rd_Complete
        · kernel_rfl
        · rfl
      · rfl
    · rfl
  · apply ns_read (A := [1])
    · repeat' (first | (with_reducible (first | exact nse_ok | exact ns_tag | exact ns_id | exact ns_put | apply ns_skip | apply ns_list | apply ns_sub | apply nse_struct | apply ns_if | apply ns_then)) | rfl)
    · intro ver; rfl
end Go.Proofs.YtadfbhmpehnkeaaDoor
