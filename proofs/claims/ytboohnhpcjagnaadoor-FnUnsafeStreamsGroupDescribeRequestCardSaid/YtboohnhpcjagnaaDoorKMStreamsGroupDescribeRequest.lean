/-
  StreamsGroupDescribeRequest: its doors.
-/
import Derived.Test.YtboohnhpcjagnaaDoorKRStreamsGroupDescribeRequest
import Derived.Test.YtboohnhpcjagnaaDoorKLaw
set_option linter.unusedSimpArgs false
set_option linter.unusedVariables false
namespace Go.Proofs.YtboohnhpcjagnaaDoor
open Go Go.RowKit

theorem new_StreamsGroupDescribeRequest : NewC Tryd.prog 78 sStreamsGroupDescribeRequest v_StreamsGroupDescribeRequest := by
  refine new_rule (z := .agg #[.int .i16 0, .slice none 0 0, .bool false, .bool false, .map none]) Tryd.func78 rfl rfl rfl (by kernel_rfl) (by decide) (fun w => ?_) d_sStreamsGroupDescribeRequest (by kernel_rfl)
  exact zero_ok (lay := sStreamsGroupDescribeRequest.lay) (tg := sStreamsGroupDescribeRequest.tg) (z := from' #[.int .i16 0, .slice none 0 0, .bool false, .bool false, .map none] 0) (by repeat' (first | rfl | trivial | apply And.intro)) (by rfl) w _
theorem set_StreamsGroupDescribeRequest : SetC Tryd.prog 80 sStreamsGroupDescribeRequest :=
  set_rule Tryd.func80 rfl rfl rfl (by kernel_rfl) (by kernel_rfl) rfl rfl rfl (by decide)
theorem tell_StreamsGroupDescribeRequest : ∃ G, TellC Tryd.prog 82 sStreamsGroupDescribeRequest G := by
  apply Exists.intro
  apply tell_plain (N := 92) (n := 3) (hf := Tryd.func82) (hN := rfl) (hres := rfl) (hT := tellT) (hok := by rfl) (h4 := by decide) (hne := by decide) (hn := by decide) (hbody := rfl)
  · apply twhole_list (i := 1) (E := id)
    · apply nul_list (i := 1) (o := 1) tellT
      · kernel_rfl
      · kernel_rfl
      · kernel_rfl
      · kernel_rfl
      · kernel_rfl
      · rfl
      · rfl
      · decide
      · decide
    · apply loop_list (i := 1) (o := 1)
      · apply app0_text (eb := 5) tellT
        · kernel_rfl
        · kernel_rfl
        · kernel_rfl
        · kernel_rfl
        · kernel_rfl
        · rfl
        · kernel_rfl
        · rfl
        · decide
        · decide
      · apply app1_text (eb := 5) tellT
        · kernel_rfl
        · kernel_rfl
        · kernel_rfl
        · kernel_rfl
        · kernel_rfl
        · rfl
        · kernel_rfl
        · rfl
        · decide
        · decide
      · rfl
      · exact ⟨.bool false, by kernel_rfl, rfl⟩
      · kernel_rfl
      · kernel_rfl
      · kernel_rfl
      · kernel_rfl
      · kernel_rfl
      · rfl
      · rfl
      · rfl
    · apply twhole_seq
      · apply tell_leaf (i := 2) (o := 2) tellT (leaf_bool tellT)
        · kernel_rfl
        · rfl
        · kernel_rfl
        · kernel_rfl
        · rfl
        · rfl
        · decide
      · apply twhole_seq
        · apply tell_leaf (i := 3) (o := 3) tellT (leaf_bool tellT)
          · kernel_rfl
          · rfl
          · kernel_rfl
          · kernel_rfl
          · rfl
          · rfl
          · decide
        · exact twhole_tags tellT tagT rfl (by kernel_rfl) (by rfl) (by kernel_rfl) (by kernel_rfl) (by kernel_rfl) each_spec sorted_spec (clo_rule Tryd.func129 rfl rfl tagT rfl)
theorem doors_StreamsGroupDescribeRequest : ∃ ft v1 G, DoorC Tryd.prog 33 fl_StreamsGroupDescribeRequest ft v1 G ∧ DoorC Tryd.prog 34 fl_StreamsGroupDescribeRequest ft v1 G ∧ NsI ft v1 := by
  obtain ⟨ft, hr, hns⟩ := read_StreamsGroupDescribeRequest
  obtain ⟨G, hG⟩ := tell_StreamsGroupDescribeRequest
  refine ⟨ft, v_StreamsGroupDescribeRequest, G, ?_, ?_, hns⟩
  · exact door_rule Tryd.func33 rfl rfl tellT rfl (by kernel_rfl) (by kernel_rfl) (by kernel_rfl) (by kernel_rfl) (by kernel_rfl) (by kernel_rfl) (eb := 5) (by kernel_rfl) (by kernel_rfl) new_StreamsGroupDescribeRequest set_StreamsGroupDescribeRequest (rf_rule Tryd.func81 rfl rfl rfl hr (by kernel_rfl)) hG (by decide)
  · exact door_rule Tryd.func34 rfl rfl tellT rfl (by kernel_rfl) (by kernel_rfl) (by kernel_rfl) (by kernel_rfl) (by kernel_rfl) (by kernel_rfl) (eb := 5) (by kernel_rfl) (by kernel_rfl) new_StreamsGroupDescribeRequest set_StreamsGroupDescribeRequest (rf_rule Tryd.func83 rfl rfl rfl hr (by kernel_rfl)) hG (by decide)
end Go.Proofs.YtboohnhpcjagnaaDoor
