/-
  DeleteShareGroupOffsetsRequest: how it is read.
-/
import Derived.Test.YtjjpiacdamibjaaDoorKNs
import Derived.Test.YtjjpiacdamibjaaDoorKMsgT
import Derived.Test.YtjjpiacdamibjaaDoorKUu
set_option linter.unusedSimpArgs false
set_option linter.unusedVariables false
namespace Go.Proofs.YtjjpiacdamibjaaDoor
open Go Go.RowKit

abbrev sDeleteShareGroupOffsetsRequest : St := ⟨10, .cons 0 (.int .i16) (.cons 1 .str (.cons 2 (.list (.struct (.cons 0 .str .nil) (some 1) 2) 2) .nil)), some 3, 4⟩
theorem d_sDeleteShareGroupOffsetsRequest : DfC Tryd.prog 27 sDeleteShareGroupOffsetsRequest (fun v => v) := by
  apply dfc_rule (N := 2) (hf := Tryd.func27) (hbody := rfl) (hN := rfl) (hres := rfl) (hN1 := by decide)
  exact dblk_skip
abbrev sDeleteShareGroupOffsetsRequest_1 : St := ⟨17, .cons 0 .str .nil, some 1, 2⟩
theorem d_sDeleteShareGroupOffsetsRequest_1 : DfC Tryd.prog 45 sDeleteShareGroupOffsetsRequest_1 (fun v => v) := by
  apply dfc_rule (N := 2) (hf := Tryd.func45) (hbody := rfl) (hN := rfl) (hres := rfl) (hN1 := by decide)
  exact dblk_skip
abbrev v_DeleteShareGroupOffsetsRequest : SV := (Lay.zeroL sDeleteShareGroupOffsetsRequest.lay, ([] : Tags))
abbrev fl_DeleteShareGroupOffsetsRequest : Int → Bool := (fun ver => decide ((0 : Int) ≤ ver))
set_option maxRecDepth 100000 in
theorem read_DeleteShareGroupOffsetsRequest : ∃ ft, ReadC Tryd.prog 28 sDeleteShareGroupOffsetsRequest fl_DeleteShareGroupOffsetsRequest ft ∧ NsI ft v_DeleteShareGroupOffsetsRequest := by
  apply Exists.intro
  constructor
  · apply read_flex (m := 19) (N := 99) (hf := Tryd.func28) (hN := rfl) (hres := rfl) (hR := rdT) (h16 := by kernel_rfl) (hver := by kernel_rfl) (hlay := rfl) (hsz := rfl) (hs := rfl) (hm := by decide) (hmN := by decide)
      (hbd := by kernel_rfl) (hd := d_sDeleteShareGroupOffsetsRequest) (hd0 := fun v n h => by simpa using h) (hbody := rfl)
    apply whole_seq
    · apply blk_seq
      · apply blk_nop
        rfl
      · apply blk_get (i := 1)
        · apply get_uns
          · apply get_flex
            · rfl
            · apply get_call
              · exact rc_UnsafeCompactString
              · kernel_rfl
              · rfl
            · apply get_call
              · exact rc_UnsafeString
              · kernel_rfl
              · rfl
            · rfl
          · apply get_flex
            · rfl
            · apply get_call
              · exact rc_CompactString
              · kernel_rfl
              · rfl
            · apply get_call
              · exact rc_String
              · kernel_rfl
              · rfl
            · rfl
          · rfl
        · apply blkV_put
          · rfl
          · rfl
          · kernel_rfl
          · kernel_rfl
          · rfl
        · rfl
      · decide
    · apply whole_seq
      · apply blk_list (i := 2)
        · rfl
        · rfl
        · kernel_rfl
        · kernel_rfl
        · kernel_rfl
        · apply get_flex
          · rfl
          · apply get_call
            · exact rc_CompactArrayLen
            · kernel_rfl
            · rfl
          · apply get_call
            · exact rc_ArrayLen
            · kernel_rfl
            · rfl
          · rfl
        · apply ok_rule
          · exact rd_Ok
          · exact rd_Complete
          · kernel_rfl
          · kernel_rfl
          · rfl
        · apply cut_rule (sz := 2) (e := 65)
          · kernel_rfl
          · rfl
        · apply grow_rule (e := 65) (zs := #[.string (str []), .map none])
          · kernel_rfl
          · kernel_rfl
          · kernel_rfl
          · rfl
        · apply loop_rule
          · apply elem_struct (σ := sDeleteShareGroupOffsetsRequest_1) (e := 65) (z := from' #[.string (str []), .map none] 0) (z0 := (Lay.zeroL sDeleteShareGroupOffsetsRequest_1.lay, []))
            · apply blk_seq
              · apply blk_seq
                · apply blk_nop
                  rfl
                · apply blk_get (i := 0)
                  · apply get_uns
                    · apply get_flex
                      · rfl
                      · apply get_call
                        · exact rc_UnsafeCompactString
                        · kernel_rfl
                        · rfl
                      · apply get_call
                        · exact rc_UnsafeString
                        · kernel_rfl
                        · rfl
                      · rfl
                    · apply get_flex
                      · rfl
                      · apply get_call
                        · exact rc_CompactString
                        · kernel_rfl
                        · rfl
                      · apply get_call
                        · exact rc_String
                        · kernel_rfl
                        · rfl
                      · rfl
                    · rfl
                  · apply blkV_put
                    · rfl
                    · rfl
                    · kernel_rfl
                    · kernel_rfl
                    · rfl
                  · rfl
                · decide
              · apply blk_if
                · apply tst_flex
                  · rfl
                  · rfl
                · apply blk_tag
                  · exact readTags_spec
                  · kernel_rfl
                  · rfl
                  · kernel_rfl
                  · kernel_rfl
                  · rfl
                  · rfl
                · exact blk_skip
                · rfl
              · decide
            · exact d_sDeleteShareGroupOffsetsRequest_1
            · kernel_rfl
            · kernel_rfl
            · rfl
            · rfl
            · exact zero_ok (lay := sDeleteShareGroupOffsetsRequest_1.lay) (tg := sDeleteShareGroupOffsetsRequest_1.tg) (z := from' #[.string (str []), .map none] 0) (by repeat' (first | rfl | trivial | apply And.intro)) (by rfl)
            · rfl
          · rfl
        · rfl
        · rfl
        · rfl
      · apply whole_seq
        · apply blk_if
          · apply tst_flex
            · rfl
            · rfl
          · apply blk_tag
            · exact readTags_spec
            · kernel_rfl
            · rfl
            · kernel_rfl
            · kernel_rfl
            · rfl
            · rfl
          · exact blk_skip
          · rfl
        · apply whole_end
          · exact rd_Complete
          · kernel_rfl
          · rfl
        · rfl
      · rfl
    · rfl
  · apply ns_read (A := [2])
    · repeat' (first | (with_reducible (first | exact nse_ok | exact ns_tag | exact ns_id | exact ns_put | apply ns_skip | apply ns_list | apply ns_sub | apply ns_psub | apply nse_struct | apply ns_if | apply ns_then)) | rfl)
    · intro ver; rfl
end Go.Proofs.YtjjpiacdamibjaaDoor
