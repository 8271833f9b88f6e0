/-
  DescribeACLsRequest: how it is read.
-/
import Derived.Test.YtboohnhpcjagnaaDoorKNs
import Derived.Test.YtboohnhpcjagnaaDoorKMsgT
set_option linter.unusedSimpArgs false
set_option linter.unusedVariables false
namespace Go.Proofs.YtboohnhpcjagnaaDoor
open Go Go.RowKit

abbrev sDescribeACLsRequest : St := ⟨10, .cons 0 (.int .i16) (.cons 1 (.int .i8) (.cons 2 .pstr (.cons 3 (.int .i8) (.cons 4 .pstr (.cons 5 .pstr (.cons 6 (.int .i8) (.cons 7 (.int .i8) .nil))))))), some 8, 9⟩
theorem d_sDescribeACLsRequest : DfC Tryd.prog 134 sDescribeACLsRequest (fun v => ((v).1.set 3 (.num (3)), (v).2)) := by
  apply dfc_rule (N := 5) (hf := Tryd.func134) (hbody := rfl) (hN := rfl) (hres := rfl) (hN1 := by decide)
  apply dblk_set (i := 3) (u := .num (3)) (hat := rfl) (hok := by rfl) (h1 := rfl) (hf := by kernel_rfl) (hsz := by kernel_rfl) (hval := rfl) (hrep := fun w F => by simp only [Rep]; exact ⟨_, rfl, by simp [fits, IntKind.min, IntKind.max, IntKind.signed, IntKind.bits], rfl⟩) (hs := by rfl)
abbrev v_DescribeACLsRequest : SV := (((Lay.zeroL sDescribeACLsRequest.lay, ([] : Tags))).1.set 3 (.num (3)), ((Lay.zeroL sDescribeACLsRequest.lay, ([] : Tags))).2)
abbrev fl_DescribeACLsRequest : Int → Bool := (fun ver => decide ((2 : Int) ≤ ver))
set_option maxRecDepth 100000 in
theorem read_DescribeACLsRequest : ∃ ft, ReadC Tryd.prog 135 sDescribeACLsRequest fl_DescribeACLsRequest ft ∧ NsI ft v_DescribeACLsRequest := by
  apply Exists.intro
  constructor
  · apply read_flex (m := 26) (N := 108) (hf := Tryd.func135) (hN := rfl) (hres := rfl) (hR := rdT) (h16 := by kernel_rfl) (hver := by kernel_rfl) (hlay := rfl) (hsz := rfl) (hs := rfl) (hm := by decide) (hmN := by decide)
      (hbd := by kernel_rfl) (hd := d_sDescribeACLsRequest) (hd0 := fun v n h => by simpa using h) (hbody := rfl)
    apply whole_seq
    · apply blk_seq
      · apply blk_nop
        rfl
      · apply blk_get (i := 1)
        · apply get_move
          · apply get_call
            · exact rc_Int8
            · kernel_rfl
            · rfl
          · rfl
        · apply blkV_move
          · apply blkV_put
            · rfl
            · rfl
            · kernel_rfl
            · kernel_rfl
            · rfl
          · rfl
        · rfl
      · decide
    · apply whole_seq
      · apply blk_seq
        · apply blk_nop
          rfl
        · apply blk_get (i := 2)
          · apply get_flex
            · rfl
            · apply get_uns
              · apply get_call
                · exact rc_UnsafeCompactNullableString
                · kernel_rfl
                · rfl
              · apply get_call
                · exact rc_CompactNullableString
                · kernel_rfl
                · rfl
              · rfl
            · apply get_uns
              · apply get_call
                · exact rc_UnsafeNullableString
                · kernel_rfl
                · rfl
              · apply get_call
                · exact rc_NullableString
                · kernel_rfl
                · rfl
              · rfl
            · rfl
          · apply blkV_put
            · rfl
            · rfl
            · kernel_rfl
            · kernel_rfl
            · rfl
          · rfl
        · decide
      · apply whole_seq
        · apply blk_if
          · apply tst_geq
            rfl
          · apply blk_seq
            · apply blk_nop
              rfl
            · apply blk_get (i := 3)
              · apply get_move
                · apply get_call
                  · exact rc_Int8
                  · kernel_rfl
                  · rfl
                · rfl
              · apply blkV_move
                · apply blkV_put
                  · rfl
                  · rfl
                  · kernel_rfl
                  · kernel_rfl
                  · rfl
                · rfl
              · rfl
            · decide
          · exact blk_skip
          · rfl
        · apply whole_seq
          · apply blk_seq
            · apply blk_nop
              rfl
            · apply blk_get (i := 4)
              · apply get_flex
                · rfl
                · apply get_uns
                  · apply get_call
                    · exact rc_UnsafeCompactNullableString
                    · kernel_rfl
                    · rfl
                  · apply get_call
                    · exact rc_CompactNullableString
                    · kernel_rfl
                    · rfl
                  · rfl
                · apply get_uns
                  · apply get_call
                    · exact rc_UnsafeNullableString
                    · kernel_rfl
                    · rfl
                  · apply get_call
                    · exact rc_NullableString
                    · kernel_rfl
                    · rfl
                  · rfl
                · rfl
              · apply blkV_put
                · rfl
                · rfl
                · kernel_rfl
                · kernel_rfl
                · rfl
              · rfl
            · decide
          · apply whole_seq
            · apply blk_seq
              · apply blk_nop
                rfl
              · apply blk_get (i := 5)
                · apply get_flex
                  · rfl
                  · apply get_uns
                    · apply get_call
                      · exact rc_UnsafeCompactNullableString
                      · kernel_rfl
                      · rfl
                    · apply get_call
                      · exact rc_CompactNullableString
                      · kernel_rfl
                      · rfl
                    · rfl
                  · apply get_uns
                    · apply get_call
                      · exact rc_UnsafeNullableString
                      · kernel_rfl
                      · rfl
                    · apply get_call
                      · exact rc_NullableString
                      · kernel_rfl
                      · rfl
                    · rfl
                  · rfl
                · apply blkV_put
                  · rfl
                  · rfl
                  · kernel_rfl
                  · kernel_rfl
                  · rfl
                · rfl
              · decide
            · apply whole_seq
              · apply blk_seq
                · apply blk_nop
                  rfl
                · apply blk_get (i := 6)
                  · apply get_move
                    · apply get_call
                      · exact rc_Int8
                      · kernel_rfl
                      · rfl
                    · rfl
                  · apply blkV_move
                    · apply blkV_put
                      · rfl
                      · rfl
                      · kernel_rfl
                      · kernel_rfl
                      · rfl
                    · rfl
                  · rfl
                · decide
              · apply whole_seq
                · apply blk_seq
                  · apply blk_nop
                    rfl
                  · apply blk_get (i := 7)
                    · apply get_move
                      · apply get_call
                        · exact rc_Int8
                        · kernel_rfl
                        · rfl
                      · rfl
                    · apply blkV_move
                      · apply blkV_put
                        · rfl
                        · rfl
                        · kernel_rfl
                        · kernel_rfl
                        · rfl
                      · rfl
                    · rfl
                  · decide
                · apply whole_seq
                  · apply blk_if
                    · apply tst_flex
                      · rfl
                      · rfl
                    · apply blk_tag
                      · exact readTags_spec
                      · kernel_rfl
                      · rfl
                      · kernel_rfl
                      · kernel_rfl
                      · rfl
                      · rfl
                    · exact blk_skip
                    · rfl
                  · apply whole_end
                    · exact rd_Complete
                    · kernel_rfl
                    · rfl
                  · rfl
                · rfl
              · rfl
            · rfl
          · rfl
        · rfl
      · rfl
    · rfl
  · apply ns_read (A := []) (B := [])
    · repeat' (first | exact nse_ok | exact ns_tag | exact ns_id | exact ns_skip (by rfl) | exact ns_put (by rfl) | exact ns_list_last | apply ns_list | apply ns_if | apply ns_sub | apply nse_struct | apply ns_then | rfl)
    · intro ver; rfl
end Go.Proofs.YtboohnhpcjagnaaDoor
