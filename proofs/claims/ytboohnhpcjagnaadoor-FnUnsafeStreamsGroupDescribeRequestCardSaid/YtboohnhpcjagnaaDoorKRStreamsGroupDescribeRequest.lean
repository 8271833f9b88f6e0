/-
  StreamsGroupDescribeRequest: how it is read.
-/
import Derived.Test.YtboohnhpcjagnaaDoorKNs
import Derived.Test.YtboohnhpcjagnaaDoorKMsgT
set_option linter.unusedSimpArgs false
set_option linter.unusedVariables false
namespace Go.Proofs.YtboohnhpcjagnaaDoor
open Go Go.RowKit

abbrev sStreamsGroupDescribeRequest : St := ⟨10, .cons 0 (.int .i16) (.cons 1 (.list .str 1) (.cons 2 .bool (.cons 3 .bool .nil))), some 4, 5⟩
theorem d_sStreamsGroupDescribeRequest : DfC Tryd.prog 127 sStreamsGroupDescribeRequest (fun v => v) := by
  apply dfc_rule (N := 2) (hf := Tryd.func127) (hbody := rfl) (hN := rfl) (hres := rfl) (hN1 := by decide)
  exact dblk_skip
abbrev v_StreamsGroupDescribeRequest : SV := (Lay.zeroL sStreamsGroupDescribeRequest.lay, ([] : Tags))
abbrev fl_StreamsGroupDescribeRequest : Int → Bool := (fun ver => decide ((0 : Int) ≤ ver))
set_option maxRecDepth 100000 in
theorem read_StreamsGroupDescribeRequest : ∃ ft, ReadC Tryd.prog 128 sStreamsGroupDescribeRequest fl_StreamsGroupDescribeRequest ft ∧ NsI ft v_StreamsGroupDescribeRequest := by
  apply Exists.intro
  constructor
  · apply read_flex (m := 18) (N := 88) (hf := Tryd.func128) (hN := rfl) (hres := rfl) (hR := rdT) (h16 := by kernel_rfl) (hver := by kernel_rfl) (hlay := rfl) (hsz := rfl) (hs := rfl) (hm := by decide) (hmN := by decide)
      (hbd := by kernel_rfl) (hd := d_sStreamsGroupDescribeRequest) (hd0 := fun v n h => by simpa using h) (hbody := rfl)
    apply whole_seq
    · apply blk_list (i := 1)
      · rfl
      · rfl
      · kernel_rfl
      · kernel_rfl
      · kernel_rfl
      · apply get_flex
        · rfl
        · apply get_call
          · exact rc_CompactArrayLen
          · kernel_rfl
          · rfl
        · apply get_call
          · exact rc_ArrayLen
          · kernel_rfl
          · rfl
        · rfl
      · apply ok_rule
        · exact rd_Ok
        · exact rd_Complete
        · kernel_rfl
        · kernel_rfl
        · rfl
      · apply cut_rule (sz := 1) (e := 9)
        · kernel_rfl
        · rfl
      · apply grow_rule (e := 9) (zs := #[.string (str [])])
        · kernel_rfl
        · kernel_rfl
        · kernel_rfl
        · rfl
      · apply loop_rule
        · apply elem_decl
          · apply elem_scalar (e := 9)
            · apply get_uns
              · apply get_flex
                · rfl
                · apply get_call
                  · exact rc_UnsafeCompactString
                  · kernel_rfl
                  · rfl
                · apply get_call
                  · exact rc_UnsafeString
                  · kernel_rfl
                  · rfl
                · rfl
              · apply get_flex
                · rfl
                · apply get_call
                  · exact rc_CompactString
                  · kernel_rfl
                  · rfl
                · apply get_call
                  · exact rc_String
                  · kernel_rfl
                  · rfl
                · rfl
              · rfl
            · rfl
            · rfl
            · kernel_rfl
            · kernel_rfl
            · rfl
          · rfl
        · rfl
      · rfl
      · rfl
      · rfl
    · apply whole_seq
      · apply blk_get (i := 2)
        · apply get_call
          · exact rc_Bool
          · kernel_rfl
          · rfl
        · apply blkV_put
          · rfl
          · rfl
          · kernel_rfl
          · kernel_rfl
          · rfl
        · rfl
      · apply whole_seq
        · apply blk_if
          · apply tst_geq
            rfl
          · apply blk_get (i := 3)
            · apply get_call
              · exact rc_Bool
              · kernel_rfl
              · rfl
            · apply blkV_put
              · rfl
              · rfl
              · kernel_rfl
              · kernel_rfl
              · rfl
            · rfl
          · exact blk_skip
          · rfl
        · apply whole_seq
          · apply blk_if
            · apply tst_flex
              · rfl
              · rfl
            · apply blk_tag
              · exact readTags_spec
              · kernel_rfl
              · rfl
              · kernel_rfl
              · kernel_rfl
              · rfl
              · rfl
            · exact blk_skip
            · rfl
          · apply whole_end
            · exact rd_Complete
            · kernel_rfl
            · rfl
          · rfl
        · rfl
      · rfl
    · rfl
  · apply ns_read (A := [1]) (B := [])
    · repeat' (first | exact nse_ok | exact ns_tag | exact ns_id | exact ns_skip (by rfl) | exact ns_put (by rfl) | exact ns_list_last | apply ns_list | apply ns_if | apply ns_sub | apply nse_struct | apply ns_then | rfl)
    · intro ver; rfl
end Go.Proofs.YtboohnhpcjagnaaDoor
