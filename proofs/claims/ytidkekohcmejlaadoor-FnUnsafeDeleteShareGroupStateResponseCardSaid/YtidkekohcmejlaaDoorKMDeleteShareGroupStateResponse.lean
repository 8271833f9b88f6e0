/-
  DeleteShareGroupStateResponse: its doors.
-/
import Derived.Test.YtidkekohcmejlaaDoorKRDeleteShareGroupStateResponse
import Derived.Test.YtidkekohcmejlaaDoorKLaw
set_option linter.unusedSimpArgs false
set_option linter.unusedVariables false
namespace Go.Proofs.YtidkekohcmejlaaDoor
open Go Go.RowKit

theorem new_DeleteShareGroupStateResponse : NewC Tryd.prog 45 sDeleteShareGroupStateResponse v_DeleteShareGroupStateResponse := by
  refine new_rule (z := .agg #[.int .i16 0, .slice none 0 0, .map none]) Tryd.func45 rfl rfl rfl (by kernel_rfl) (by decide) (fun w => ?_) d_sDeleteShareGroupStateResponse (by kernel_rfl)
  exact zero_ok (lay := sDeleteShareGroupStateResponse.lay) (tg := sDeleteShareGroupStateResponse.tg) (z := from' #[.int .i16 0, .slice none 0 0, .map none] 0) (by repeat' (first | rfl | trivial | apply And.intro)) (by rfl) w _
theorem set_DeleteShareGroupStateResponse : SetC Tryd.prog 47 sDeleteShareGroupStateResponse :=
  set_rule Tryd.func47 rfl rfl rfl (by kernel_rfl) (by kernel_rfl) rfl rfl rfl (by decide)
set_option maxRecDepth 100000 in
theorem tell_DeleteShareGroupStateResponse_t150 : ∃ G, TellC Tryd.prog 150 sDeleteShareGroupStateResponse_2 G := by
  apply Exists.intro
  apply tell_plain (N := 41) (n := 3) (hf := Tryd.func150) (hN := rfl) (hres := rfl) (hT := tellT) (hok := by rfl) (h4 := by decide) (hne := by decide) (hn := by decide) (hbody := rfl)
  · apply twhole_seq
    · apply tell_num (i := 0) (o := 0) (kd := .i32) tellT
      · kernel_rfl
      · kernel_rfl
      · exact kd_i32
      · kernel_rfl
      · kernel_rfl
      · rfl
      · rfl
      · decide
    · apply twhole_seq
      · apply tell_num (i := 1) (o := 1) (kd := .i16) tellT
        · kernel_rfl
        · kernel_rfl
        · exact kd_i16
        · kernel_rfl
        · kernel_rfl
        · rfl
        · rfl
        · decide
      · apply twhole_seq
        · apply tell_leaf (i := 2) (o := 2) tellT (leaf_text tellT)
          · kernel_rfl
          · rfl
          · kernel_rfl
          · kernel_rfl
          · rfl
          · rfl
          · decide
        · exact twhole_tags tellT tagT rfl (by kernel_rfl) (by rfl) (by kernel_rfl) (by kernel_rfl) (by kernel_rfl) each_spec sorted_spec (clo_rule Tryd.func170 rfl rfl tagT rfl)
set_option maxRecDepth 100000 in
theorem tell_DeleteShareGroupStateResponse_t96 : ∃ G, TellC Tryd.prog 96 sDeleteShareGroupStateResponse_1 G := by
  obtain ⟨GDeleteShareGroupStateResponse_t150, hGDeleteShareGroupStateResponse_t150⟩ := tell_DeleteShareGroupStateResponse_t150
  apply Exists.intro
  apply tell_plain (N := 81) (n := 2) (hf := Tryd.func96) (hN := rfl) (hres := rfl) (hT := tellT) (hok := by rfl) (h4 := by decide) (hne := by decide) (hn := by decide) (hbody := rfl)
  · apply twhole_seq
    · apply tell_uuid (i := 0) (o := 0) (eb := 5) tellT
      · kernel_rfl
      · kernel_rfl
      · kernel_rfl
      · rfl
      · rfl
      · decide
    · apply twhole_list (i := 1) (E := (structT GDeleteShareGroupStateResponse_t150))
      · apply nul_list (i := 1) (o := 16) tellT
        · kernel_rfl
        · kernel_rfl
        · kernel_rfl
        · kernel_rfl
        · kernel_rfl
        · rfl
        · rfl
        · decide
        · decide
      · apply loop_list (i := 1) (o := 16)
        · apply app0_call (es := 164) tellT
          · exact hGDeleteShareGroupStateResponse_t150
          · kernel_rfl
          · rfl
          · rfl
          · kernel_rfl
          · kernel_rfl
          · kernel_rfl
          · rfl
          · kernel_rfl
          · rfl
          · decide
          · decide
        · apply app1_call (es := 164) tellT
          · exact hGDeleteShareGroupStateResponse_t150
          · kernel_rfl
          · rfl
          · rfl
          · kernel_rfl
          · kernel_rfl
          · kernel_rfl
          · rfl
          · kernel_rfl
          · rfl
          · decide
          · decide
        · rfl
        · exact ⟨.bool false, by kernel_rfl, rfl⟩
        · kernel_rfl
        · kernel_rfl
        · kernel_rfl
        · kernel_rfl
        · kernel_rfl
        · rfl
        · rfl
        · rfl
      · exact twhole_tags tellT tagT rfl (by kernel_rfl) (by rfl) (by kernel_rfl) (by kernel_rfl) (by kernel_rfl) each_spec sorted_spec (clo_rule Tryd.func151 rfl rfl tagT rfl)
set_option maxRecDepth 100000 in
theorem tell_DeleteShareGroupStateResponse : ∃ G, TellC Tryd.prog 49 sDeleteShareGroupStateResponse G := by
  obtain ⟨GDeleteShareGroupStateResponse_t96, hGDeleteShareGroupStateResponse_t96⟩ := tell_DeleteShareGroupStateResponse_t96
  apply Exists.intro
  apply tell_plain (N := 72) (n := 1) (hf := Tryd.func49) (hN := rfl) (hres := rfl) (hT := tellT) (hok := by rfl) (h4 := by decide) (hne := by decide) (hn := by decide) (hbody := rfl)
  · apply twhole_list (i := 1) (E := (structT GDeleteShareGroupStateResponse_t96))
    · apply nul_list (i := 1) (o := 1) tellT
      · kernel_rfl
      · kernel_rfl
      · kernel_rfl
      · kernel_rfl
      · kernel_rfl
      · rfl
      · rfl
      · decide
      · decide
    · apply loop_list (i := 1) (o := 1)
      · apply app0_call (es := 119) tellT
        · exact hGDeleteShareGroupStateResponse_t96
        · kernel_rfl
        · rfl
        · rfl
        · kernel_rfl
        · kernel_rfl
        · kernel_rfl
        · rfl
        · kernel_rfl
        · rfl
        · decide
        · decide
      · apply app1_call (es := 119) tellT
        · exact hGDeleteShareGroupStateResponse_t96
        · kernel_rfl
        · rfl
        · rfl
        · kernel_rfl
        · kernel_rfl
        · kernel_rfl
        · rfl
        · kernel_rfl
        · rfl
        · decide
        · decide
      · rfl
      · exact ⟨.bool false, by kernel_rfl, rfl⟩
      · kernel_rfl
      · kernel_rfl
      · kernel_rfl
      · kernel_rfl
      · kernel_rfl
      · rfl
      · rfl
      · rfl
    · exact twhole_tags tellT tagT rfl (by kernel_rfl) (by rfl) (by kernel_rfl) (by kernel_rfl) (by kernel_rfl) each_spec sorted_spec (clo_rule Tryd.func97 rfl rfl tagT rfl)
theorem doors_DeleteShareGroupStateResponse : ∃ ft v1 G, DoorC Tryd.prog 17 fl_DeleteShareGroupStateResponse ft v1 G ∧ DoorC Tryd.prog 18 fl_DeleteShareGroupStateResponse ft v1 G ∧ NsI ft v1 := by
  obtain ⟨ft, hr, hns⟩ := read_DeleteShareGroupStateResponse
  obtain ⟨G, hG⟩ := tell_DeleteShareGroupStateResponse
  refine ⟨ft, v_DeleteShareGroupStateResponse, G, ?_, ?_, hns⟩
  · exact door_rule Tryd.func17 rfl rfl tellT rfl (by kernel_rfl) (by kernel_rfl) (by kernel_rfl) (by kernel_rfl) (by kernel_rfl) (by kernel_rfl) (eb := 5) (by kernel_rfl) (by kernel_rfl) new_DeleteShareGroupStateResponse set_DeleteShareGroupStateResponse (rf_rule Tryd.func48 rfl rfl rfl hr (by kernel_rfl)) hG (by decide)
  · exact door_rule Tryd.func18 rfl rfl tellT rfl (by kernel_rfl) (by kernel_rfl) (by kernel_rfl) (by kernel_rfl) (by kernel_rfl) (by kernel_rfl) (eb := 5) (by kernel_rfl) (by kernel_rfl) new_DeleteShareGroupStateResponse set_DeleteShareGroupStateResponse (rf_rule Tryd.func50 rfl rfl rfl hr (by kernel_rfl)) hG (by decide)
end Go.Proofs.YtidkekohcmejlaaDoor
