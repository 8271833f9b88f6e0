/-
  EndTxnRequest: how it is read.
-/
import Derived.Test.YtboohnhpcjagnaaDoorKNs
import Derived.Test.YtboohnhpcjagnaaDoorKMsgT
set_option linter.unusedSimpArgs false
set_option linter.unusedVariables false
namespace Go.Proofs.YtboohnhpcjagnaaDoor
open Go Go.RowKit

abbrev sEndTxnRequest : St := ⟨10, .cons 0 (.int .i16) (.cons 1 .str (.cons 2 (.int .i64) (.cons 3 (.int .i16) (.cons 4 .bool .nil)))), some 5, 6⟩
theorem d_sEndTxnRequest : DfC Tryd.prog 120 sEndTxnRequest (fun v => v) := by
  apply dfc_rule (N := 2) (hf := Tryd.func120) (hbody := rfl) (hN := rfl) (hres := rfl) (hN1 := by decide)
  exact dblk_skip
abbrev v_EndTxnRequest : SV := (Lay.zeroL sEndTxnRequest.lay, ([] : Tags))
abbrev fl_EndTxnRequest : Int → Bool := (fun ver => decide ((3 : Int) ≤ ver))
set_option maxRecDepth 100000 in
theorem read_EndTxnRequest : ∃ ft, ReadC Tryd.prog 121 sEndTxnRequest fl_EndTxnRequest ft ∧ NsI ft v_EndTxnRequest := by
  apply Exists.intro
  constructor
  · apply read_flex (m := 15) (N := 60) (hf := Tryd.func121) (hN := rfl) (hres := rfl) (hR := rdT) (h16 := by kernel_rfl) (hver := by kernel_rfl) (hlay := rfl) (hsz := rfl) (hs := rfl) (hm := by decide) (hmN := by decide)
      (hbd := by kernel_rfl) (hd := d_sEndTxnRequest) (hd0 := fun v n h => by simpa using h) (hbody := rfl)
    apply whole_seq
    · apply blk_seq
      · apply blk_nop
        rfl
      · apply blk_get (i := 1)
        · apply get_uns
          · apply get_flex
            · rfl
            · apply get_call
              · exact rc_UnsafeCompactString
              · kernel_rfl
              · rfl
            · apply get_call
              · exact rc_UnsafeString
              · kernel_rfl
              · rfl
            · rfl
          · apply get_flex
            · rfl
            · apply get_call
              · exact rc_CompactString
              · kernel_rfl
              · rfl
            · apply get_call
              · exact rc_String
              · kernel_rfl
              · rfl
            · rfl
          · rfl
        · apply blkV_put
          · rfl
          · rfl
          · kernel_rfl
          · kernel_rfl
          · rfl
        · rfl
      · decide
    · apply whole_seq
      · apply blk_get (i := 2)
        · apply get_call
          · exact rc_Int64
          · kernel_rfl
          · rfl
        · apply blkV_put
          · rfl
          · rfl
          · kernel_rfl
          · kernel_rfl
          · rfl
        · rfl
      · apply whole_seq
        · apply blk_get (i := 3)
          · apply get_call
            · exact rc_Int16
            · kernel_rfl
            · rfl
          · apply blkV_put
            · rfl
            · rfl
            · kernel_rfl
            · kernel_rfl
            · rfl
          · rfl
        · apply whole_seq
          · apply blk_get (i := 4)
            · apply get_call
              · exact rc_Bool
              · kernel_rfl
              · rfl
            · apply blkV_put
              · rfl
              · rfl
              · kernel_rfl
              · kernel_rfl
              · rfl
            · rfl
          · apply whole_seq
            · apply blk_if
              · apply tst_flex
                · rfl
                · rfl
              · apply blk_tag
                · exact readTags_spec
                · kernel_rfl
                · rfl
                · kernel_rfl
                · kernel_rfl
                · rfl
                · rfl
              · exact blk_skip
              · rfl
            · apply whole_end
              · exact rd_Complete
              · kernel_rfl
              · rfl
            · rfl
          · rfl
        · rfl
      · rfl
    · rfl
  · apply ns_read (A := []) (B := [])
    · repeat' (first | exact nse_ok | exact ns_tag | exact ns_id | exact ns_skip (by rfl) | exact ns_put (by rfl) | exact ns_list_last | apply ns_list | apply ns_if | apply ns_sub | apply nse_struct | apply ns_then | rfl)
    · intro ver; rfl
end Go.Proofs.YtboohnhpcjagnaaDoor
