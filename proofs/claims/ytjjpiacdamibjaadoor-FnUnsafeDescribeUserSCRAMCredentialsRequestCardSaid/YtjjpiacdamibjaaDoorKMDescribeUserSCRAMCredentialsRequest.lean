/-
  DescribeUserSCRAMCredentialsRequest: its doors.
-/
import Derived.Test.YtjjpiacdamibjaaDoorKRDescribeUserSCRAMCredentialsRequest
import Derived.Test.YtjjpiacdamibjaaDoorKLaw
set_option linter.unusedSimpArgs false
set_option linter.unusedVariables false
namespace Go.Proofs.YtjjpiacdamibjaaDoor
open Go Go.RowKit

theorem new_DescribeUserSCRAMCredentialsRequest : NewC Tryd.prog 21 sDescribeUserSCRAMCredentialsRequest v_DescribeUserSCRAMCredentialsRequest := by
  refine new_rule (z := .agg #[.int .i16 0, .slice none 0 0, .map none]) Tryd.func21 rfl rfl rfl (by kernel_rfl) (by decide) (fun w => ?_) d_sDescribeUserSCRAMCredentialsRequest (by kernel_rfl)
  exact zero_ok (lay := sDescribeUserSCRAMCredentialsRequest.lay) (tg := sDescribeUserSCRAMCredentialsRequest.tg) (z := from' #[.int .i16 0, .slice none 0 0, .map none] 0) (by repeat' (first | rfl | trivial | apply And.intro)) (by rfl) w _
theorem set_DescribeUserSCRAMCredentialsRequest : SetC Tryd.prog 23 sDescribeUserSCRAMCredentialsRequest :=
  set_rule Tryd.func23 rfl rfl rfl (by kernel_rfl) (by kernel_rfl) rfl rfl rfl (by decide)
set_option maxRecDepth 100000 in
theorem tell_DescribeUserSCRAMCredentialsRequest_t35 : ∃ G, TellC Tryd.prog 35 sDescribeUserSCRAMCredentialsRequest_1 G := by
  apply Exists.intro
  apply tell_plain (N := 24) (n := 1) (hf := Tryd.func35) (hN := rfl) (hres := rfl) (hT := tellT) (hok := by rfl) (h4 := by decide) (hne := by decide) (hn := by decide) (hbody := rfl)
  · apply twhole_seq
    · apply tell_str (i := 0) (o := 0) (eb := 5) tellT
      · kernel_rfl
      · kernel_rfl
      · kernel_rfl
      · rfl
      · rfl
      · decide
    · exact twhole_tags tellT tagT rfl (by kernel_rfl) (by rfl) (by kernel_rfl) (by kernel_rfl) (by kernel_rfl) each_spec sorted_spec (clo_rule Tryd.func51 rfl rfl tagT rfl)
set_option maxRecDepth 100000 in
theorem tell_DescribeUserSCRAMCredentialsRequest : ∃ G, TellC Tryd.prog 25 sDescribeUserSCRAMCredentialsRequest G := by
  obtain ⟨GDescribeUserSCRAMCredentialsRequest_t35, hGDescribeUserSCRAMCredentialsRequest_t35⟩ := tell_DescribeUserSCRAMCredentialsRequest_t35
  apply Exists.intro
  apply tell_plain (N := 72) (n := 1) (hf := Tryd.func25) (hN := rfl) (hres := rfl) (hT := tellT) (hok := by rfl) (h4 := by decide) (hne := by decide) (hn := by decide) (hbody := rfl)
  · apply twhole_list (i := 1) (E := (structT GDescribeUserSCRAMCredentialsRequest_t35))
    · apply nul_list (i := 1) (o := 1) tellT
      · kernel_rfl
      · kernel_rfl
      · kernel_rfl
      · kernel_rfl
      · kernel_rfl
      · rfl
      · rfl
      · decide
      · decide
    · apply loop_list (i := 1) (o := 1)
      · apply app0_call (es := 75) tellT
        · exact hGDescribeUserSCRAMCredentialsRequest_t35
        · kernel_rfl
        · rfl
        · rfl
        · kernel_rfl
        · kernel_rfl
        · kernel_rfl
        · rfl
        · kernel_rfl
        · rfl
        · decide
        · decide
      · apply app1_call (es := 75) tellT
        · exact hGDescribeUserSCRAMCredentialsRequest_t35
        · kernel_rfl
        · rfl
        · rfl
        · kernel_rfl
        · kernel_rfl
        · kernel_rfl
        · rfl
        · kernel_rfl
        · rfl
        · decide
        · decide
      · rfl
      · exact ⟨.bool false, by kernel_rfl, rfl⟩
      · kernel_rfl
      · kernel_rfl
      · kernel_rfl
      · kernel_rfl
      · kernel_rfl
      · rfl
      · rfl
      · rfl
    · exact twhole_tags tellT tagT rfl (by kernel_rfl) (by rfl) (by kernel_rfl) (by kernel_rfl) (by kernel_rfl) each_spec sorted_spec (clo_rule Tryd.func36 rfl rfl tagT rfl)
theorem doors_DescribeUserSCRAMCredentialsRequest : ∃ ft v1 G, DoorC Tryd.prog 12 fl_DescribeUserSCRAMCredentialsRequest ft v1 G ∧ DoorC Tryd.prog 13 fl_DescribeUserSCRAMCredentialsRequest ft v1 G ∧ NsI ft v1 := by
  obtain ⟨ft, hr, hns⟩ := read_DescribeUserSCRAMCredentialsRequest
  obtain ⟨G, hG⟩ := tell_DescribeUserSCRAMCredentialsRequest
  refine ⟨ft, v_DescribeUserSCRAMCredentialsRequest, G, ?_, ?_, hns⟩
  · exact door_rule Tryd.func12 rfl rfl tellT rfl (by kernel_rfl) (by kernel_rfl) (by kernel_rfl) (by kernel_rfl) (by kernel_rfl) (by kernel_rfl) (eb := 5) (by kernel_rfl) (by kernel_rfl) new_DescribeUserSCRAMCredentialsRequest set_DescribeUserSCRAMCredentialsRequest (rf_rule Tryd.func24 rfl rfl rfl hr (by kernel_rfl)) hG (by decide)
  · exact door_rule Tryd.func13 rfl rfl tellT rfl (by kernel_rfl) (by kernel_rfl) (by kernel_rfl) (by kernel_rfl) (by kernel_rfl) (by kernel_rfl) (eb := 5) (by kernel_rfl) (by kernel_rfl) new_DescribeUserSCRAMCredentialsRequest set_DescribeUserSCRAMCredentialsRequest (rf_rule Tryd.func26 rfl rfl rfl hr (by kernel_rfl)) hG (by decide)
end Go.Proofs.YtjjpiacdamibjaaDoor
