/-
  DescribeShareGroupOffsetsRequest: its doors.
-/
import Derived.Test.YtadfbhmpehnkeaaDoorKRDescribeShareGroupOffsetsRequest
import Derived.Test.YtadfbhmpehnkeaaDoorKLaw
set_option linter.unusedSimpArgs false
set_option linter.unusedVariables false
namespace Go.Proofs.YtadfbhmpehnkeaaDoor
open Go Go.RowKit

theorem new_DescribeShareGroupOffsetsRequest : NewC Tryd.prog 65 sDescribeShareGroupOffsetsRequest v_DescribeShareGroupOffsetsRequest := by
  refine new_rule (z := .agg #[.int .i16 0, .slice none 0 0, .map none]) Tryd.func65 rfl rfl rfl (by kernel_rfl) (by decide) (fun w => ?_) d_sDescribeShareGroupOffsetsRequest (by kernel_rfl)
  exact zero_ok (lay := sDescribeShareGroupOffsetsRequest.lay) (tg := sDescribeShareGroupOffsetsRequest.tg) (z := from' #[.int .i16 0, .slice none 0 0, .map none] 0) (by repeat' (first | rfl | trivial | apply And.intro)) (by rfl) w _
theorem set_DescribeShareGroupOffsetsRequest : SetC Tryd.prog 67 sDescribeShareGroupOffsetsRequest :=
  set_rule Tryd.func67 rfl rfl rfl (by kernel_rfl) (by kernel_rfl) rfl rfl rfl (by decide)
set_option maxRecDepth 100000 in
theorem tell_DescribeShareGroupOffsetsRequest_t180 : ∃ G, TellC Tryd.prog 180 sDescribeShareGroupOffsetsRequest_2 G := by
  apply Exists.intro
  apply tell_plain (N := 85) (n := 2) (hf := Tryd.func180) (hN := rfl) (hres := rfl) (hT := tellT) (hok := by rfl) (h4 := by decide) (hne := by decide) (hn := by decide) (hbody := rfl)
  · apply twhole_seq
    · apply tell_str (i := 0) (o := 0) (eb := 5) tellT
      · kernel_rfl
      · kernel_rfl
      · kernel_rfl
      · rfl
      · rfl
      · decide
    · apply twhole_list (i := 1) (E := id)
      · apply nul_list (i := 1) (o := 1) tellT
        · kernel_rfl
        · kernel_rfl
        · kernel_rfl
        · kernel_rfl
        · kernel_rfl
        · rfl
        · rfl
        · decide
        · decide
      · apply loop_list (i := 1) (o := 1)
        · apply app0_num (kd := .i32) tellT
          · kernel_rfl
          · kernel_rfl
          · exact kd_i32
          · kernel_rfl
          · kernel_rfl
          · kernel_rfl
          · kernel_rfl
          · rfl
          · kernel_rfl
          · rfl
          · decide
          · decide
        · apply app1_num (kd := .i32) tellT
          · kernel_rfl
          · kernel_rfl
          · exact kd_i32
          · kernel_rfl
          · kernel_rfl
          · kernel_rfl
          · kernel_rfl
          · rfl
          · kernel_rfl
          · rfl
          · decide
          · decide
        · rfl
        · exact ⟨.bool false, by kernel_rfl, rfl⟩
        · kernel_rfl
        · kernel_rfl
        · kernel_rfl
        · kernel_rfl
        · kernel_rfl
        · rfl
        · rfl
        · rfl
      · exact twhole_tags tellT tagT rfl (by kernel_rfl) (by rfl) (by kernel_rfl) (by kernel_rfl) (by kernel_rfl) each_spec sorted_spec (clo_rule Tryd.func215 rfl rfl tagT rfl)
set_option maxRecDepth 100000 in
theorem tell_DescribeShareGroupOffsetsRequest_t123 : ∃ G, TellC Tryd.prog 123 sDescribeShareGroupOffsetsRequest_1 G := by
  obtain ⟨GDescribeShareGroupOffsetsRequest_t180, hGDescribeShareGroupOffsetsRequest_t180⟩ := tell_DescribeShareGroupOffsetsRequest_t180
  apply Exists.intro
  apply tell_plain (N := 81) (n := 2) (hf := Tryd.func123) (hN := rfl) (hres := rfl) (hT := tellT) (hok := by rfl) (h4 := by decide) (hne := by decide) (hn := by decide) (hbody := rfl)
  · apply twhole_seq
    · apply tell_str (i := 0) (o := 0) (eb := 5) tellT
      · kernel_rfl
      · kernel_rfl
      · kernel_rfl
      · rfl
      · rfl
      · decide
    · apply twhole_list (i := 1) (E := (structT GDescribeShareGroupOffsetsRequest_t180))
      · apply nul_list (i := 1) (o := 1) tellT
        · kernel_rfl
        · kernel_rfl
        · kernel_rfl
        · kernel_rfl
        · kernel_rfl
        · rfl
        · rfl
        · decide
        · decide
      · apply loop_list (i := 1) (o := 1)
        · apply app0_call (es := 191) tellT
          · exact hGDescribeShareGroupOffsetsRequest_t180
          · kernel_rfl
          · rfl
          · rfl
          · kernel_rfl
          · kernel_rfl
          · kernel_rfl
          · rfl
          · kernel_rfl
          · rfl
          · decide
          · decide
        · apply app1_call (es := 191) tellT
          · exact hGDescribeShareGroupOffsetsRequest_t180
          · kernel_rfl
          · rfl
          · rfl
          · kernel_rfl
          · kernel_rfl
          · kernel_rfl
          · rfl
          · kernel_rfl
          · rfl
          · decide
          · decide
        · rfl
        · exact ⟨.bool false, by kernel_rfl, rfl⟩
        · kernel_rfl
        · kernel_rfl
        · kernel_rfl
        · kernel_rfl
        · kernel_rfl
        · rfl
        · rfl
        · rfl
      · exact twhole_tags tellT tagT rfl (by kernel_rfl) (by rfl) (by kernel_rfl) (by kernel_rfl) (by kernel_rfl) each_spec sorted_spec (clo_rule Tryd.func181 rfl rfl tagT rfl)
set_option maxRecDepth 100000 in
theorem tell_DescribeShareGroupOffsetsRequest : ∃ G, TellC Tryd.prog 69 sDescribeShareGroupOffsetsRequest G := by
  obtain ⟨GDescribeShareGroupOffsetsRequest_t123, hGDescribeShareGroupOffsetsRequest_t123⟩ := tell_DescribeShareGroupOffsetsRequest_t123
  apply Exists.intro
  apply tell_plain (N := 72) (n := 1) (hf := Tryd.func69) (hN := rfl) (hres := rfl) (hT := tellT) (hok := by rfl) (h4 := by decide) (hne := by decide) (hn := by decide) (hbody := rfl)
  · apply twhole_list (i := 1) (E := (structT GDescribeShareGroupOffsetsRequest_t123))
    · apply nul_list (i := 1) (o := 1) tellT
      · kernel_rfl
      · kernel_rfl
      · kernel_rfl
      · kernel_rfl
      · kernel_rfl
      · rfl
      · rfl
      · decide
      · decide
    · apply loop_list (i := 1) (o := 1)
      · apply app0_call (es := 117) tellT
        · exact hGDescribeShareGroupOffsetsRequest_t123
        · kernel_rfl
        · rfl
        · rfl
        · kernel_rfl
        · kernel_rfl
        · kernel_rfl
        · rfl
        · kernel_rfl
        · rfl
        · decide
        · decide
      · apply app1_call (es := 117) tellT
        · exact hGDescribeShareGroupOffsetsRequest_t123
        · kernel_rfl
        · rfl
        · rfl
        · kernel_rfl
        · kernel_rfl
        · kernel_rfl
        · rfl
        · kernel_rfl
        · rfl
        · decide
        · decide
      · rfl
      · exact ⟨.bool false, by kernel_rfl, rfl⟩
      · kernel_rfl
      · kernel_rfl
      · kernel_rfl
      · kernel_rfl
      · kernel_rfl
      · rfl
      · rfl
      · rfl
    · exact twhole_tags tellT tagT rfl (by kernel_rfl) (by rfl) (by kernel_rfl) (by kernel_rfl) (by kernel_rfl) each_spec sorted_spec (clo_rule Tryd.func124 rfl rfl tagT rfl)
theorem doors_DescribeShareGroupOffsetsRequest : ∃ ft v1 G, DoorC Tryd.prog 26 fl_DescribeShareGroupOffsetsRequest ft v1 G ∧ DoorC Tryd.prog 27 fl_DescribeShareGroupOffsetsRequest ft v1 G ∧ NsI ft v1 := by
  obtain ⟨ft, hr, hns⟩ := read_DescribeShareGroupOffsetsRequest
  obtain ⟨G, hG⟩ := tell_DescribeShareGroupOffsetsRequest
  refine ⟨ft, v_DescribeShareGroupOffsetsRequest, G, ?_, ?_, hns⟩
  · exact door_rule Tryd.func26 rfl rfl tellT rfl (by kernel_rfl) (by kernel_rfl) (by kernel_rfl) (by kernel_rfl) (by kernel_rfl) (by kernel_rfl) (eb := 5) (by kernel_rfl) (by kernel_rfl) new_DescribeShareGroupOffsetsRequest set_DescribeShareGroupOffsetsRequest (rf_rule Tryd.func68 rfl rfl rfl hr (by kernel_rfl)) hG (by decide)
  · exact door_rule Tryd.func27 rfl rfl tellT rfl (by kernel_rfl) (by kernel_rfl) (by kernel_rfl) (by kernel_rfl) (by kernel_rfl) (by kernel_rfl) (eb := 5) (by kernel_rfl) (by kernel_rfl) new_DescribeShareGroupOffsetsRequest set_DescribeShareGroupOffsetsRequest (rf_rule Tryd.func70 rfl rfl rfl hr (by kernel_rfl)) hG (by decide)
end Go.Proofs.YtadfbhmpehnkeaaDoor
