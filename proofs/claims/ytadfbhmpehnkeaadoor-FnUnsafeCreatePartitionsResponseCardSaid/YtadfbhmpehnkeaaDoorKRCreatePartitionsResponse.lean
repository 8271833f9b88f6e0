/-
  CreatePartitionsResponse: how it is read.
-/
import Derived.Test.YtadfbhmpehnkeaaDoorKNs
import Derived.Test.YtadfbhmpehnkeaaDoorKMsgT
import Derived.Test.YtadfbhmpehnkeaaDoorKRv
import Derived.Test.YtadfbhmpehnkeaaDoorKUu
set_option linter.unusedSimpArgs false
set_option linter.unusedVariables false
namespace Go.Proofs.YtadfbhmpehnkeaaDoor
open Go Go.RowKit

abbrev sCreatePartitionsResponse : St := ⟨10, .cons 0 (.int .i16) (.cons 1 (.int .i32) (.cons 2 (.list (.struct (.cons 0 .str (.cons 1 (.int .i16) (.cons 2 .pstr .nil))) (some 3) 4) 4) .nil)), some 3, 4⟩
theorem d_sCreatePartitionsResponse : DfC Tryd.prog 107 sCreatePartitionsResponse (fun v => v) := by
  apply dfc_rule (N := 2) (hf := Tryd.func107) (hbody := rfl) (hN := rfl) (hres := rfl) (hN1 := by decide)
  exact dblk_skip
abbrev sCreatePartitionsResponse_1 : St := ⟨17, .cons 0 .str (.cons 1 (.int .i16) (.cons 2 .pstr .nil)), some 3, 4⟩
theorem d_sCreatePartitionsResponse_1 : DfC Tryd.prog 156 sCreatePartitionsResponse_1 (fun v => v) := by
  apply dfc_rule (N := 2) (hf := Tryd.func156) (hbody := rfl) (hN := rfl) (hres := rfl) (hN1 := by decide)
  exact dblk_skip
abbrev v_CreatePartitionsResponse : SV := (Lay.zeroL sCreatePartitionsResponse.lay, ([] : Tags))
abbrev fl_CreatePartitionsResponse : Int → Bool := (fun ver => decide ((2 : Int) ≤ ver))
set_option maxRecDepth 100000 in
theorem read_CreatePartitionsResponse : ∃ ft, ReadC Tryd.prog 108 sCreatePartitionsResponse fl_CreatePartitionsResponse ft ∧ NsI ft v_CreatePartitionsResponse := by
  apply Exists.intro
  constructor
  · apply read_flex (m := 21) (N := 111) (hf := Tryd.func108) (hN := rfl) (hres := rfl) (hR := rdT) (h16 := by kernel_rfl) (hver := by kernel_rfl) (hlay := rfl) (hsz := rfl) (hs := rfl) (hm := by decide) (hmN := by decide)
      (hbd := by kernel_rfl) (hd := d_sCreatePartitionsResponse) (hd0 := fun v n h => by simpa using h) (hbody := rfl)
    apply whole_seq
    · apply blk_get (i := 1)
      · apply get_call
        · exact rc_Int32
        · kernel_rfl
        · rfl
      · apply blkV_put
        · rfl
        · rfl
        · kernel_rfl
        · kernel_rfl
        · rfl
      · rfl
    · apply whole_seq
      · apply blk_list (i := 2)
        · rfl
        · rfl
        · kernel_rfl
        · kernel_rfl
        · kernel_rfl
        · apply get_flex
          · rfl
          · apply get_call
            · exact rc_CompactArrayLen
            · kernel_rfl
            · rfl
          · apply get_call
            · exact rc_ArrayLen
            · kernel_rfl
            · rfl
          · rfl
        · apply ok_rule
          · exact rd_Ok
          · exact rd_Complete
          · kernel_rfl
          · kernel_rfl
          · rfl
        · apply cut_rule (sz := 4) (e := 90)
          · kernel_rfl
          · rfl
        · apply grow_rule (e := 90) (zs := #[.string (str []), .int .i16 0, .pointer none, .map none])
          · kernel_rfl
          · kernel_rfl
          · kernel_rfl
          · rfl
        · apply loop_rule
          · apply elem_struct (σ := sCreatePartitionsResponse_1) (e := 90) (z := from' #[.string (str []), .int .i16 0, .pointer none, .map none] 0) (z0 := (Lay.zeroL sCreatePartitionsResponse_1.lay, []))
            · apply blk_seq
              · apply blk_seq
                · apply blk_nop
                  rfl
                · apply blk_get (i := 0)
                  · apply get_uns
                    · apply get_flex
                      · rfl
                      · apply get_call
                        · exact rc_UnsafeCompactString
                        · kernel_rfl
                        · rfl
                      · apply get_call
                        · exact rc_UnsafeString
                        · kernel_rfl
                        · rfl
                      · rfl
                    · apply get_flex
                      · rfl
                      · apply get_call
                        · exact rc_CompactString
                        · kernel_rfl
                        · rfl
                      · apply get_call
                        · exact rc_String
                        · kernel_rfl
                        · rfl
                      · rfl
                    · rfl
                  · apply blkV_put
                    · rfl
                    · rfl
                    · kernel_rfl
                    · kernel_rfl
                    · rfl
                  · rfl
                · decide
              · apply blk_seq
                · apply blk_get (i := 1)
                  · apply get_call
                    · exact rc_Int16
                    · kernel_rfl
                    · rfl
                  · apply blkV_put
                    · rfl
                    · rfl
                    · kernel_rfl
                    · kernel_rfl
                    · rfl
                  · rfl
                · apply blk_seq
                  · apply blk_seq
                    · apply blk_nop
                      rfl
                    · apply blk_get (i := 2)
                      · apply get_flex
                        · rfl
                        · apply get_uns
                          · apply get_call
                            · exact rc_UnsafeCompactNullableString
                            · kernel_rfl
                            · rfl
                          · apply get_call
                            · exact rc_CompactNullableString
                            · kernel_rfl
                            · rfl
                          · rfl
                        · apply get_uns
                          · apply get_call
                            · exact rc_UnsafeNullableString
                            · kernel_rfl
                            · rfl
                          · apply get_call
                            · exact rc_NullableString
                            · kernel_rfl
                            · rfl
                          · rfl
                        · rfl
                      · apply blkV_put
                        · rfl
                        · rfl
                        · kernel_rfl
                        · kernel_rfl
                        · rfl
                      · rfl
                    · decide
                  · apply blk_if
                    · apply tst_flex
                      · rfl
                      · rfl
                    · apply blk_tag
                      · exact readTags_spec
                      · kernel_rfl
                      · rfl
                      · kernel_rfl
                      · kernel_rfl
                      · rfl
                      · rfl
                    · exact blk_skip
                    · rfl
                  · decide
                · decide
              · decide
            · exact d_sCreatePartitionsResponse_1
            · kernel_rfl
            · kernel_rfl
            · rfl
            · rfl
            · exact zero_ok (lay := sCreatePartitionsResponse_1.lay) (tg := sCreatePartitionsResponse_1.tg) (z := from' #[.string (str []), .int .i16 0, .pointer none, .map none] 0) (by repeat' (first | rfl | trivial | apply And.intro)) (by rfl)
            · rfl
          · rfl
        · rfl
        · rfl
        · rfl
      · apply whole_seq
        · apply blk_if
          · apply tst_flex
            · rfl
            · rfl
          · apply blk_tag
            · exact readTags_spec
            · kernel_rfl
            · rfl
            · kernel_rfl
            · kernel_rfl
            · rfl
            · rfl
          · exact blk_skip
          · rfl
        · apply whole_end
          · exact rd_Complete
          · kernel_rfl
          · rfl
        · rfl
      · rfl
    · rfl
  · apply ns_read (A := [2])
    · repeat' (first | (with_reducible (first | exact nse_ok | exact ns_tag | exact ns_id | exact ns_put | apply ns_skip | apply ns_list | apply ns_sub | apply nse_struct | apply ns_if | apply ns_then)) | rfl)
    · intro ver; rfl
end Go.Proofs.YtadfbhmpehnkeaaDoor
