/-
  DeleteGroupsResponse: how it is read.
-/
import Derived.Test.YtadfbhmpehnkeaaDoorKNs
import Derived.Test.YtadfbhmpehnkeaaDoorKMsgT
import Derived.Test.YtadfbhmpehnkeaaDoorKRv
import Derived.Test.YtadfbhmpehnkeaaDoorKUu
set_option linter.unusedSimpArgs false
set_option linter.unusedVariables false
namespace Go.Proofs.YtadfbhmpehnkeaaDoor
open Go Go.RowKit

abbrev sDeleteGroupsResponse : St := ⟨10, .cons 0 (.int .i16) (.cons 1 (.int .i32) (.cons 2 (.list (.struct (.cons 0 .str (.cons 1 (.int .i16) (.cons 2 .pstr .nil))) (some 3) 4) 4) .nil)), some 3, 4⟩
theorem d_sDeleteGroupsResponse : DfC Tryd.prog 113 sDeleteGroupsResponse (fun v => v) := by
  apply dfc_rule (N := 2) (hf := Tryd.func113) (hbody := rfl) (hN := rfl) (hres := rfl) (hN1 := by decide)
  exact dblk_skip
abbrev sDeleteGroupsResponse_1 : St := ⟨17, .cons 0 .str (.cons 1 (.int .i16) (.cons 2 .pstr .nil)), some 3, 4⟩
theorem d_sDeleteGroupsResponse_1 : DfC Tryd.prog 170 sDeleteGroupsResponse_1 (fun v => v) := by
  apply dfc_rule (N := 2) (hf := Tryd.func170) (hbody := rfl) (hN := rfl) (hres := rfl) (hN1 := by decide)
  exact dblk_skip
abbrev v_DeleteGroupsResponse : SV := (Lay.zeroL sDeleteGroupsResponse.lay, ([] : Tags))
abbrev fl_DeleteGroupsResponse : Int → Bool := (fun ver => decide ((2 : Int) ≤ ver))
set_option maxRecDepth 100000 in
theorem read_DeleteGroupsResponse : ∃ ft, ReadC Tryd.prog 114 sDeleteGroupsResponse fl_DeleteGroupsResponse ft ∧ NsI ft v_DeleteGroupsResponse := by
  apply Exists.intro
  constructor
  · apply read_flex (m := 21) (N := 113) (hf := Tryd.func114) (hN := rfl) (hres := rfl) (hR := rdT) (h16 := by kernel_rfl) (hver := by kernel_rfl) (hlay := rfl) (hsz := rfl) (hs := rfl) (hm := by decide) (hmN := by decide)
      (hbd := by kernel_rfl) (hd := d_sDeleteGroupsResponse) (hd0 := fun v n h => by simpa using h) (hbody := rfl)
    apply whole_seq
    · apply blk_get (i := 1)
      · apply get_call
        · exact rc_Int32
        · kernel_rfl
        · rfl
      · apply blkV_put
        · rfl
        · rfl
        · kernel_rfl
        · kernel_rfl
        · rfl
      · rfl
    · apply whole_seq
      · apply blk_list (i := 2)
        · rfl
        · rfl
        · kernel_rfl
        · kernel_rfl
        · kernel_rfl
        · apply get_flex
          · rfl
          · apply get_call
            · exact rc_CompactArrayLen
            · kernel_rfl
            · rfl
          · apply get_call
            · exact rc_ArrayLen
            · kernel_rfl
            · rfl
          · rfl
        · apply ok_rule
          · exact rd_Ok
          · exact rd_Complete
          · kernel_rfl
          · kernel_rfl
          · rfl
        · apply cut_rule (sz := 4) (e := 100)
          · kernel_rfl
          · rfl
        · apply grow_rule (e := 100) (zs := #[.string (str []), .int .i16 0, .pointer none, .map none])
          · kernel_rfl
          · kernel_rfl
          · kernel_rfl
          · rfl
        · apply loop_rule
          · apply elem_struct (σ := sDeleteGroupsResponse_1) (e := 100) (z := from' #[.string (str []), .int .i16 0, .pointer none, .map none] 0) (z0 := (Lay.zeroL sDeleteGroupsResponse_1.lay, []))
            · apply blk_seq
              · apply blk_seq
                · apply blk_nop
                  rfl
                · apply blk_get (i := 0)
                  · apply get_uns
                    · apply get_flex
                      · rfl
                      · apply get_call
                        · exact rc_UnsafeCompactString
                        · kernel_rfl
                        · rfl
                      · apply get_call
                        · exact rc_UnsafeString
                        · kernel_rfl
                        · rfl
                      · rfl
                    · apply get_flex
                      · rfl
                      · apply get_call
                        · exact rc_CompactString
                        · kernel_rfl
                        · rfl
                      · apply get_call
                        · exact rc_String
                        · kernel_rfl
                        · rfl
                      · rfl
                    · rfl
                  · apply blkV_put
                    · rfl
                    · rfl
                    · kernel_rfl
                    · kernel_rfl
                    · rfl
                  · rfl
                · decide
              · apply blk_seq
                · apply blk_get (i := 1)
                  · apply get_call
                    · exact rc_Int16
                    · kernel_rfl
                    · rfl
                  · apply blkV_put
                    · rfl
                    · rfl
                    · kernel_rfl
                    · kernel_rfl
                    · rfl
                  · rfl
                · apply blk_seq
                  · apply blk_if
                    · apply tst_geq
                      rfl
                    · apply blk_seq
                      · apply blk_nop
                        rfl
                      · apply blk_get (i := 2)
                        · apply get_flex
                          · rfl
                          · apply get_uns
                            · apply get_call
                              · exact rc_UnsafeCompactNullableString
                              · kernel_rfl
                              · rfl
                            · apply get_call
                              · exact rc_CompactNullableString
                              · kernel_rfl
                              · rfl
                            · rfl
                          · apply get_uns
                            · apply get_call
                              · exact rc_UnsafeNullableString
                              · kernel_rfl
                              · rfl
                            · apply get_call
                              · exact rc_NullableString
                              · kernel_rfl
                              · rfl
                            · rfl
                          · rfl
                        · apply blkV_put
                          · rfl
                          · rfl
                          · kernel_rfl
                          · kernel_rfl
                          · rfl
                        · rfl
                      · decide
                    · exact blk_skip
                    · rfl
                  · apply blk_if
                    · apply tst_flex
                      · rfl
                      · rfl
                    · apply blk_tag
                      · exact readTags_spec
                      · kernel_rfl
                      · rfl
                      · kernel_rfl
                      · kernel_rfl
                      · rfl
                      · rfl
                    · exact blk_skip
                    · rfl
                  · decide
                · decide
              · decide
            · exact d_sDeleteGroupsResponse_1
            · kernel_rfl
            · kernel_rfl
            · rfl
            · rfl
            · exact zero_ok (lay := sDeleteGroupsResponse_1.lay) (tg := sDeleteGroupsResponse_1.tg) (z := from' #[.string (str []), .int .i16 0, .pointer none, .map none] 0) (by repeat' (first | rfl | trivial | apply And.intro)) (by rfl)
            · rfl
          · rfl
        · rfl
        · rfl
        · rfl
      · apply whole_seq
        · apply blk_if
          · apply tst_flex
            · rfl
            · rfl
          · apply blk_tag
            · exact readTags_spec
            · kernel_rfl
            · rfl
            · kernel_rfl
            · kernel_rfl
            · rfl
            · rfl
          · exact blk_skip
          · rfl
        · apply whole_end
          · exact rd_Complete
          · kernel_rfl
          · rfl
        · rfl
      · rfl
    · rfl
  · apply ns_read (A := [2])
    · repeat' (first | (with_reducible (first | exact nse_ok | exact ns_tag | exact ns_id | exact ns_put | apply ns_skip | apply ns_list | apply ns_sub | apply nse_struct | apply ns_if | apply ns_then)) | rfl)
    · intro ver; rfl
end Go.Proofs.YtadfbhmpehnkeaaDoor
