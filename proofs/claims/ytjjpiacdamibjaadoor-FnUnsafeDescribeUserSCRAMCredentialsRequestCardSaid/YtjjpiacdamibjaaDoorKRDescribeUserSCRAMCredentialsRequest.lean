/-
  DescribeUserSCRAMCredentialsRequest: how it is read.
-/
import Derived.Test.YtjjpiacdamibjaaDoorKNs
import Derived.Test.YtjjpiacdamibjaaDoorKMsgT
import Derived.Test.YtjjpiacdamibjaaDoorKUu
set_option linter.unusedSimpArgs false
set_option linter.unusedVariables false
namespace Go.Proofs.YtjjpiacdamibjaaDoor
open Go Go.RowKit

abbrev sDescribeUserSCRAMCredentialsRequest : St := ⟨10, .cons 0 (.int .i16) (.cons 1 (.list (.struct (.cons 0 .str .nil) (some 1) 2) 2) .nil), some 2, 3⟩
theorem d_sDescribeUserSCRAMCredentialsRequest : DfC Tryd.prog 33 sDescribeUserSCRAMCredentialsRequest (fun v => v) := by
  apply dfc_rule (N := 2) (hf := Tryd.func33) (hbody := rfl) (hN := rfl) (hres := rfl) (hN1 := by decide)
  exact dblk_skip
abbrev sDescribeUserSCRAMCredentialsRequest_1 : St := ⟨16, .cons 0 .str .nil, some 1, 2⟩
theorem d_sDescribeUserSCRAMCredentialsRequest_1 : DfC Tryd.prog 50 sDescribeUserSCRAMCredentialsRequest_1 (fun v => v) := by
  apply dfc_rule (N := 2) (hf := Tryd.func50) (hbody := rfl) (hN := rfl) (hres := rfl) (hN1 := by decide)
  exact dblk_skip
abbrev v_DescribeUserSCRAMCredentialsRequest : SV := (Lay.zeroL sDescribeUserSCRAMCredentialsRequest.lay, ([] : Tags))
abbrev fl_DescribeUserSCRAMCredentialsRequest : Int → Bool := (fun ver => decide ((0 : Int) ≤ ver))
set_option maxRecDepth 100000 in
theorem read_DescribeUserSCRAMCredentialsRequest : ∃ ft, ReadC Tryd.prog 34 sDescribeUserSCRAMCredentialsRequest fl_DescribeUserSCRAMCredentialsRequest ft ∧ NsI ft v_DescribeUserSCRAMCredentialsRequest := by
  apply Exists.intro
  constructor
  · apply read_flex (m := 18) (N := 94) (hf := Tryd.func34) (hN := rfl) (hres := rfl) (hR := rdT) (h16 := by kernel_rfl) (hver := by kernel_rfl) (hlay := rfl) (hsz := rfl) (hs := rfl) (hm := by decide) (hmN := by decide)
      (hbd := by kernel_rfl) (hd := d_sDescribeUserSCRAMCredentialsRequest) (hd0 := fun v n h => by simpa using h) (hbody := rfl)
    apply whole_seq
    · apply blk_listN (i := 1)
      · rfl
      · rfl
      · kernel_rfl
      · kernel_rfl
      · kernel_rfl
      · apply get_flex
        · rfl
        · apply get_call
          · exact rc_CompactArrayLen
          · kernel_rfl
          · rfl
        · apply get_call
          · exact rc_ArrayLen
          · kernel_rfl
          · rfl
        · rfl
      · apply nul_rule (sz := 2) (ET := 75)
        · kernel_rfl
        · rfl
      · apply ok_rule
        · exact rd_Ok
        · exact rd_Complete
        · kernel_rfl
        · kernel_rfl
        · rfl
      · apply cut_rule (sz := 2) (e := 75)
        · kernel_rfl
        · rfl
      · apply grow_rule (e := 75) (zs := #[.string (str []), .map none])
        · kernel_rfl
        · kernel_rfl
        · kernel_rfl
        · rfl
      · apply loop_rule
        · apply elem_struct (σ := sDescribeUserSCRAMCredentialsRequest_1) (e := 75) (z := from' #[.string (str []), .map none] 0) (z0 := (Lay.zeroL sDescribeUserSCRAMCredentialsRequest_1.lay, []))
          · apply blk_seq
            · apply blk_seq
              · apply blk_nop
                rfl
              · apply blk_get (i := 0)
                · apply get_uns
                  · apply get_flex
                    · rfl
                    · apply get_call
                      · exact rc_UnsafeCompactString
                      · kernel_rfl
                      · rfl
                    · apply get_call
                      · exact rc_UnsafeString
                      · kernel_rfl
                      · rfl
                    · rfl
                  · apply get_flex
                    · rfl
                    · apply get_call
                      · exact rc_CompactString
                      · kernel_rfl
                      · rfl
                    · apply get_call
                      · exact rc_String
                      · kernel_rfl
                      · rfl
                    · rfl
                  · rfl
                · apply blkV_put
                  · rfl
                  · rfl
                  · kernel_rfl
                  · kernel_rfl
                  · rfl
                · rfl
              · decide
            · apply blk_if
              · apply tst_flex
                · rfl
                · rfl
              · apply blk_tag
                · exact readTags_spec
                · kernel_rfl
                · rfl
                · kernel_rfl
                · kernel_rfl
                · rfl
                · rfl
              · exact blk_skip
              · rfl
            · decide
          · exact d_sDescribeUserSCRAMCredentialsRequest_1
          · kernel_rfl
          · kernel_rfl
          · rfl
          · rfl
          · exact zero_ok (lay := sDescribeUserSCRAMCredentialsRequest_1.lay) (tg := sDescribeUserSCRAMCredentialsRequest_1.tg) (z := from' #[.string (str []), .map none] 0) (by repeat' (first | rfl | trivial | apply And.intro)) (by rfl)
          · rfl
        · rfl
      · rfl
      · rfl
      · rfl
    · apply whole_seq
      · apply blk_if
        · apply tst_flex
          · rfl
          · rfl
        · apply blk_tag
          · exact readTags_spec
          · kernel_rfl
          · rfl
          · kernel_rfl
          · kernel_rfl
          · rfl
          · rfl
        · exact blk_skip
        · rfl
      · apply whole_end
        · exact rd_Complete
        · kernel_rfl
        · rfl
      · rfl
    · rfl
  · apply ns_read (A := [1])
    · repeat' (first | (with_reducible (first | exact nse_ok | exact ns_tag | exact ns_id | exact ns_put | apply ns_skip | apply ns_list | apply ns_sub | apply ns_psub | apply nse_struct | apply ns_if | apply ns_then)) | rfl)
    · intro ver; rfl
end Go.Proofs.YtjjpiacdamibjaaDoor
