/-
  ShareGroupDescribeRequest: its doors.
-/
import Derived.Test.YtboohnhpcjagnaaDoorKRShareGroupDescribeRequest
import Derived.Test.YtboohnhpcjagnaaDoorKLaw
set_option linter.unusedSimpArgs false
set_option linter.unusedVariables false
namespace Go.Proofs.YtboohnhpcjagnaaDoor
open Go Go.RowKit

theorem new_ShareGroupDescribeRequest : NewC Tryd.prog 72 sShareGroupDescribeRequest v_ShareGroupDescribeRequest := by
  refine new_rule (z := .agg #[.int .i16 0, .slice none 0 0, .bool false, .map none]) Tryd.func72 rfl rfl rfl (by kernel_rfl) (by decide) (fun w => ?_) d_sShareGroupDescribeRequest (by kernel_rfl)
  exact zero_ok (lay := sShareGroupDescribeRequest.lay) (tg := sShareGroupDescribeRequest.tg) (z := from' #[.int .i16 0, .slice none 0 0, .bool false, .map none] 0) (by repeat' (first | rfl | trivial | apply And.intro)) (by rfl) w _
theorem set_ShareGroupDescribeRequest : SetC Tryd.prog 74 sShareGroupDescribeRequest :=
  set_rule Tryd.func74 rfl rfl rfl (by kernel_rfl) (by kernel_rfl) rfl rfl rfl (by decide)
theorem tell_ShareGroupDescribeRequest : ∃ G, TellC Tryd.prog 76 sShareGroupDescribeRequest G := by
  apply Exists.intro
  apply tell_plain (N := 84) (n := 2) (hf := Tryd.func76) (hN := rfl) (hres := rfl) (hT := tellT) (hok := by rfl) (h4 := by decide) (hne := by decide) (hn := by decide) (hbody := rfl)
  · apply twhole_list (i := 1) (E := id)
    · apply nul_list (i := 1) (o := 1) tellT
      · kernel_rfl
      · kernel_rfl
      · kernel_rfl
      · kernel_rfl
      · kernel_rfl
      · rfl
      · rfl
      · decide
      · decide
    · apply loop_list (i := 1) (o := 1)
      · apply app0_text (eb := 5) tellT
        · kernel_rfl
        · kernel_rfl
        · kernel_rfl
        · kernel_rfl
        · kernel_rfl
        · rfl
        · kernel_rfl
        · rfl
        · decide
        · decide
      · apply app1_text (eb := 5) tellT
        · kernel_rfl
        · kernel_rfl
        · kernel_rfl
        · kernel_rfl
        · kernel_rfl
        · rfl
        · kernel_rfl
        · rfl
        · decide
        · decide
      · rfl
      · exact ⟨.bool false, by kernel_rfl, rfl⟩
      · kernel_rfl
      · kernel_rfl
      · kernel_rfl
      · kernel_rfl
      · kernel_rfl
      · rfl
      · rfl
      · rfl
    · apply twhole_seq
      · apply tell_leaf (i := 2) (o := 2) tellT (leaf_bool tellT)
        · kernel_rfl
        · rfl
        · kernel_rfl
        · kernel_rfl
        · rfl
        · rfl
        · decide
      · exact twhole_tags tellT tagT rfl (by kernel_rfl) (by rfl) (by kernel_rfl) (by kernel_rfl) (by kernel_rfl) each_spec sorted_spec (clo_rule Tryd.func126 rfl rfl tagT rfl)
theorem doors_ShareGroupDescribeRequest : ∃ ft v1 G, DoorC Tryd.prog 30 fl_ShareGroupDescribeRequest ft v1 G ∧ DoorC Tryd.prog 31 fl_ShareGroupDescribeRequest ft v1 G ∧ NsI ft v1 := by
  obtain ⟨ft, hr, hns⟩ := read_ShareGroupDescribeRequest
  obtain ⟨G, hG⟩ := tell_ShareGroupDescribeRequest
  refine ⟨ft, v_ShareGroupDescribeRequest, G, ?_, ?_, hns⟩
  · exact door_rule Tryd.func30 rfl rfl tellT rfl (by kernel_rfl) (by kernel_rfl) (by kernel_rfl) (by kernel_rfl) (by kernel_rfl) (by kernel_rfl) (eb := 5) (by kernel_rfl) (by kernel_rfl) new_ShareGroupDescribeRequest set_ShareGroupDescribeRequest (rf_rule Tryd.func75 rfl rfl rfl hr (by kernel_rfl)) hG (by decide)
  · exact door_rule Tryd.func31 rfl rfl tellT rfl (by kernel_rfl) (by kernel_rfl) (by kernel_rfl) (by kernel_rfl) (by kernel_rfl) (by kernel_rfl) (eb := 5) (by kernel_rfl) (by kernel_rfl) new_ShareGroupDescribeRequest set_ShareGroupDescribeRequest (rf_rule Tryd.func77 rfl rfl rfl hr (by kernel_rfl)) hG (by decide)
end Go.Proofs.YtboohnhpcjagnaaDoor
