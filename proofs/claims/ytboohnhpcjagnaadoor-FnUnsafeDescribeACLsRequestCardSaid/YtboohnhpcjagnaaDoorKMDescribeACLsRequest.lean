/-
  DescribeACLsRequest: its doors.
-/
import Derived.Test.YtboohnhpcjagnaaDoorKRDescribeACLsRequest
import Derived.Test.YtboohnhpcjagnaaDoorKLaw
set_option linter.unusedSimpArgs false
set_option linter.unusedVariables false
namespace Go.Proofs.YtboohnhpcjagnaaDoor
open Go Go.RowKit

theorem new_DescribeACLsRequest : NewC Tryd.prog 90 sDescribeACLsRequest v_DescribeACLsRequest := by
  refine new_rule (z := .agg #[.int .i16 0, .int .i8 0, .pointer none, .int .i8 0, .pointer none, .pointer none, .int .i8 0, .int .i8 0, .map none]) Tryd.func90 rfl rfl rfl (by kernel_rfl) (by decide) (fun w => ?_) d_sDescribeACLsRequest (by kernel_rfl)
  exact zero_ok (lay := sDescribeACLsRequest.lay) (tg := sDescribeACLsRequest.tg) (z := from' #[.int .i16 0, .int .i8 0, .pointer none, .int .i8 0, .pointer none, .pointer none, .int .i8 0, .int .i8 0, .map none] 0) (by repeat' (first | rfl | trivial | apply And.intro)) (by rfl) w _
theorem set_DescribeACLsRequest : SetC Tryd.prog 92 sDescribeACLsRequest :=
  set_rule Tryd.func92 rfl rfl rfl (by kernel_rfl) (by kernel_rfl) rfl rfl rfl (by decide)
theorem tell_DescribeACLsRequest : ∃ G, TellC Tryd.prog 94 sDescribeACLsRequest G := by
  apply Exists.intro
  apply tell_plain (N := 75) (n := 7) (hf := Tryd.func94) (hN := rfl) (hres := rfl) (hT := tellT) (hok := by rfl) (h4 := by decide) (hne := by decide) (hn := by decide) (hbody := rfl)
  · apply twhole_seq
    · apply tell_num (i := 1) (o := 1) (kd := .i8) tellT
      · kernel_rfl
      · kernel_rfl
      · exact kd_i8
      · kernel_rfl
      · kernel_rfl
      · rfl
      · rfl
      · decide
    · apply twhole_seq
      · apply tell_leaf (i := 2) (o := 2) tellT (leaf_text tellT)
        · kernel_rfl
        · rfl
        · kernel_rfl
        · kernel_rfl
        · rfl
        · rfl
        · decide
      · apply twhole_seq
        · apply tell_num (i := 3) (o := 3) (kd := .i8) tellT
          · kernel_rfl
          · kernel_rfl
          · exact kd_i8
          · kernel_rfl
          · kernel_rfl
          · rfl
          · rfl
          · decide
        · apply twhole_seq
          · apply tell_leaf (i := 4) (o := 4) tellT (leaf_text tellT)
            · kernel_rfl
            · rfl
            · kernel_rfl
            · kernel_rfl
            · rfl
            · rfl
            · decide
          · apply twhole_seq
            · apply tell_leaf (i := 5) (o := 5) tellT (leaf_text tellT)
              · kernel_rfl
              · rfl
              · kernel_rfl
              · kernel_rfl
              · rfl
              · rfl
              · decide
            · apply twhole_seq
              · apply tell_num (i := 6) (o := 6) (kd := .i8) tellT
                · kernel_rfl
                · kernel_rfl
                · exact kd_i8
                · kernel_rfl
                · kernel_rfl
                · rfl
                · rfl
                · decide
              · apply twhole_seq
                · apply tell_num (i := 7) (o := 7) (kd := .i8) tellT
                  · kernel_rfl
                  · kernel_rfl
                  · exact kd_i8
                  · kernel_rfl
                  · kernel_rfl
                  · rfl
                  · rfl
                  · decide
                · exact twhole_tags tellT tagT rfl (by kernel_rfl) (by rfl) (by kernel_rfl) (by kernel_rfl) (by kernel_rfl) each_spec sorted_spec (clo_rule Tryd.func136 rfl rfl tagT rfl)
                · intro v ts; simp
              · intro v ts; simp
            · intro v ts; simp
          · intro v ts; simp
        · intro v ts; simp
      · intro v ts; simp
    · intro v ts; simp
  · intro v ts; simp
theorem doors_DescribeACLsRequest : ∃ ft v1 G, DoorC Tryd.prog 39 fl_DescribeACLsRequest ft v1 G ∧ DoorC Tryd.prog 40 fl_DescribeACLsRequest ft v1 G ∧ NsI ft v1 := by
  obtain ⟨ft, hr, hns⟩ := read_DescribeACLsRequest
  obtain ⟨G, hG⟩ := tell_DescribeACLsRequest
  refine ⟨ft, v_DescribeACLsRequest, G, ?_, ?_, hns⟩
  · exact door_rule Tryd.func39 rfl rfl tellT rfl (by kernel_rfl) (by kernel_rfl) (by kernel_rfl) (by kernel_rfl) (by kernel_rfl) (by kernel_rfl) (eb := 5) (by kernel_rfl) (by kernel_rfl) new_DescribeACLsRequest set_DescribeACLsRequest (rf_rule Tryd.func93 rfl rfl rfl hr (by kernel_rfl)) hG (by decide)
  · exact door_rule Tryd.func40 rfl rfl tellT rfl (by kernel_rfl) (by kernel_rfl) (by kernel_rfl) (by kernel_rfl) (by kernel_rfl) (by kernel_rfl) (eb := 5) (by kernel_rfl) (by kernel_rfl) new_DescribeACLsRequest set_DescribeACLsRequest (rf_rule Tryd.func95 rfl rfl rfl hr (by kernel_rfl)) hG (by decide)
end Go.Proofs.YtboohnhpcjagnaaDoor
