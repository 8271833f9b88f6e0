/-
  MetadataRequest: how it is read.
-/
import Derived.Test.YtadfbhmpehnkeaaDoorKNs
import Derived.Test.YtadfbhmpehnkeaaDoorKMsgT
import Derived.Test.YtadfbhmpehnkeaaDoorKUu
set_option linter.unusedSimpArgs false
set_option linter.unusedVariables false
namespace Go.Proofs.YtadfbhmpehnkeaaDoor
open Go Go.RowKit

abbrev sMetadataRequest : St := ⟨10, .cons 0 (.int .i16) (.cons 1 (.list (.struct (.cons 0 .uuid (.cons 16 .pstr .nil)) (some 17) 18) 18) (.cons 2 .bool (.cons 3 .bool (.cons 4 .bool .nil)))), some 5, 6⟩
theorem d_sMetadataRequest : DfC Tryd.prog 125 sMetadataRequest (fun v => v) := by
  apply dfc_rule (N := 2) (hf := Tryd.func125) (hbody := rfl) (hN := rfl) (hres := rfl) (hN1 := by decide)
  exact dblk_skip
abbrev sMetadataRequest_1 : St := ⟨16, .cons 0 .uuid (.cons 16 .pstr .nil), some 17, 18⟩
theorem d_sMetadataRequest_1 : DfC Tryd.prog 182 sMetadataRequest_1 (fun v => v) := by
  apply dfc_rule (N := 2) (hf := Tryd.func182) (hbody := rfl) (hN := rfl) (hres := rfl) (hN1 := by decide)
  exact dblk_skip
abbrev v_MetadataRequest : SV := (Lay.zeroL sMetadataRequest.lay, ([] : Tags))
abbrev fl_MetadataRequest : Int → Bool := (fun ver => decide ((9 : Int) ≤ ver))
set_option maxRecDepth 100000 in
theorem read_MetadataRequest : ∃ ft, ReadC Tryd.prog 126 sMetadataRequest fl_MetadataRequest ft ∧ NsI ft v_MetadataRequest := by
  apply Exists.intro
  constructor
  · apply read_flex (m := 23) (N := 140) (hf := Tryd.func126) (hN := rfl) (hres := rfl) (hR := rdT) (h16 := by kernel_rfl) (hver := by kernel_rfl) (hlay := rfl) (hsz := rfl) (hs := rfl) (hm := by decide) (hmN := by decide)
      (hbd := by kernel_rfl) (hd := d_sMetadataRequest) (hd0 := fun v n h => by simpa using h) (hbody := rfl)
    apply whole_seq
    · apply blk_listN (i := 1)
      · rfl
      · rfl
      · kernel_rfl
      · kernel_rfl
      · kernel_rfl
      · apply get_flex
        · rfl
        · apply get_call
          · exact rc_CompactArrayLen
          · kernel_rfl
          · rfl
        · apply get_call
          · exact rc_ArrayLen
          · kernel_rfl
          · rfl
        · rfl
      · apply nul_rule (sz := 18) (ET := 124)
        · kernel_rfl
        · rfl
      · apply ok_rule
        · exact rd_Ok
        · exact rd_Complete
        · kernel_rfl
        · kernel_rfl
        · rfl
      · apply cut_rule (sz := 18) (e := 124)
        · kernel_rfl
        · rfl
      · apply grow_rule (e := 124) (zs := #[.int .u8 0, .int .u8 0, .int .u8 0, .int .u8 0, .int .u8 0, .int .u8 0, .int .u8 0, .int .u8 0, .int .u8 0, .int .u8 0, .int .u8 0, .int .u8 0, .int .u8 0, .int .u8 0, .int .u8 0, .int .u8 0, .pointer none, .map none])
        · kernel_rfl
        · kernel_rfl
        · kernel_rfl
        · rfl
      · apply loop_rule
        · apply elem_struct (σ := sMetadataRequest_1) (e := 124) (z := from' #[.int .u8 0, .int .u8 0, .int .u8 0, .int .u8 0, .int .u8 0, .int .u8 0, .int .u8 0, .int .u8 0, .int .u8 0, .int .u8 0, .int .u8 0, .int .u8 0, .int .u8 0, .int .u8 0, .int .u8 0, .int .u8 0, .pointer none, .map none] 0) (z0 := (Lay.zeroL sMetadataRequest_1.lay, []))
          · apply blk_seq
            · apply blk_if
              · apply tst_geq
                rfl
              · apply blk_uuid (i := 0)
                · exact rc_Uuid
                · kernel_rfl
                · kernel_rfl
                · exact zeroU
                · kernel_rfl
                · rfl
                · rfl
                · kernel_rfl
                · rfl
              · exact blk_skip
              · rfl
            · apply blk_seq
              · apply blk_seq
                · apply blk_nop
                  rfl
                · apply blk_get (i := 1)
                  · apply get_if
                    · apply tst_lss
                      rfl
                    · apply get_box (q := ⟨#[]⟩)
                      · apply getb_cond
                        · apply tst_flex
                          · rfl
                          · rfl
                        · apply getb_uns
                          · apply getb_call
                            · exact rc_UnsafeCompactString
                            · kernel_rfl
                            · kernel_rfl
                            · rfl
                          · apply getb_call
                            · exact rc_CompactString
                            · kernel_rfl
                            · kernel_rfl
                            · rfl
                          · rfl
                        · apply getb_uns
                          · apply getb_call
                            · exact rc_UnsafeString
                            · kernel_rfl
                            · kernel_rfl
                            · rfl
                          · apply getb_call
                            · exact rc_String
                            · kernel_rfl
                            · kernel_rfl
                            · rfl
                          · rfl
                        · rfl
                      · kernel_rfl
                      · rfl
                    · apply get_flex
                      · rfl
                      · apply get_uns
                        · apply get_call
                          · exact rc_UnsafeCompactNullableString
                          · kernel_rfl
                          · rfl
                        · apply get_call
                          · exact rc_CompactNullableString
                          · kernel_rfl
                          · rfl
                        · rfl
                      · apply get_uns
                        · apply get_call
                          · exact rc_UnsafeNullableString
                          · kernel_rfl
                          · rfl
                        · apply get_call
                          · exact rc_NullableString
                          · kernel_rfl
                          · rfl
                        · rfl
                      · rfl
                  · apply blkV_put
                    · rfl
                    · rfl
                    · kernel_rfl
                    · kernel_rfl
                    · rfl
                  · rfl
                · decide
              · apply blk_if
                · apply tst_flex
                  · rfl
                  · rfl
                · apply blk_tag
                  · exact readTags_spec
                  · kernel_rfl
                  · rfl
                  · kernel_rfl
                  · kernel_rfl
                  · rfl
                  · rfl
                · exact blk_skip
                · rfl
              · decide
            · decide
          · exact d_sMetadataRequest_1
          · kernel_rfl
          · kernel_rfl
          · rfl
          · rfl
          · exact zero_ok (lay := sMetadataRequest_1.lay) (tg := sMetadataRequest_1.tg) (z := from' #[.int .u8 0, .int .u8 0, .int .u8 0, .int .u8 0, .int .u8 0, .int .u8 0, .int .u8 0, .int .u8 0, .int .u8 0, .int .u8 0, .int .u8 0, .int .u8 0, .int .u8 0, .int .u8 0, .int .u8 0, .int .u8 0, .pointer none, .map none] 0) (by repeat' (first | rfl | trivial | apply And.intro)) (by rfl)
          · rfl
        · rfl
      · rfl
      · rfl
      · rfl
    · apply whole_seq
      · apply blk_if
        · apply tst_geq
          rfl
        · apply blk_get (i := 2)
          · apply get_call
            · exact rc_Bool
            · kernel_rfl
            · rfl
          · apply blkV_put
            · rfl
            · rfl
            · kernel_rfl
            · kernel_rfl
            · rfl
          · rfl
        · exact blk_skip
        · rfl
      · apply whole_seq
        · apply blk_if
          · apply tst_and
            rfl
          · apply blk_get (i := 3)
            · apply get_call
              · exact rc_Bool
              · kernel_rfl
              · rfl
            · apply blkV_put
              · rfl
              · rfl
              · kernel_rfl
              · kernel_rfl
              · rfl
            · rfl
          · exact blk_skip
          · rfl
        · apply whole_seq
          · apply blk_if
            · apply tst_geq
              rfl
            · apply blk_get (i := 4)
              · apply get_call
                · exact rc_Bool
                · kernel_rfl
                · rfl
              · apply blkV_put
                · rfl
                · rfl
                · kernel_rfl
                · kernel_rfl
                · rfl
              · rfl
            · exact blk_skip
            · rfl
          · apply whole_seq
            · apply blk_if
              · apply tst_flex
                · rfl
                · rfl
              · apply blk_tag
                · exact readTags_spec
                · kernel_rfl
                · rfl
                · kernel_rfl
                · kernel_rfl
                · rfl
                · rfl
              · exact blk_skip
              · rfl
            · apply whole_end
              · exact rd_Complete
              · kernel_rfl
              · rfl
            · rfl
          · rfl
        · rfl
      · rfl
    · rfl
  · apply ns_read (A := [1])
    · repeat' (first | (with_reducible (first | exact nse_ok | exact ns_tag | exact ns_id | exact ns_put | apply ns_skip | apply ns_list | apply ns_sub | apply ns_psub | apply nse_struct | apply ns_if | apply ns_then)) | rfl)
    · intro ver; rfl
end Go.Proofs.YtadfbhmpehnkeaaDoor
