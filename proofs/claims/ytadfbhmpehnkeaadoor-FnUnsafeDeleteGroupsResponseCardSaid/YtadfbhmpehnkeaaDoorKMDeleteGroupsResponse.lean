/-
  DeleteGroupsResponse: its doors.
-/
import Derived.Test.YtadfbhmpehnkeaaDoorKRDeleteGroupsResponse
import Derived.Test.YtadfbhmpehnkeaaDoorKLaw
set_option linter.unusedSimpArgs false
set_option linter.unusedVariables false
namespace Go.Proofs.YtadfbhmpehnkeaaDoor
open Go Go.RowKit

theorem new_DeleteGroupsResponse : NewC Tryd.prog 53 sDeleteGroupsResponse v_DeleteGroupsResponse := by
  refine new_rule (z := .agg #[.int .i16 0, .int .i32 0, .slice none 0 0, .map none]) Tryd.func53 rfl rfl rfl (by kernel_rfl) (by decide) (fun w => ?_) d_sDeleteGroupsResponse (by kernel_rfl)
  exact zero_ok (lay := sDeleteGroupsResponse.lay) (tg := sDeleteGroupsResponse.tg) (z := from' #[.int .i16 0, .int .i32 0, .slice none 0 0, .map none] 0) (by repeat' (first | rfl | trivial | apply And.intro)) (by rfl) w _
theorem set_DeleteGroupsResponse : SetC Tryd.prog 55 sDeleteGroupsResponse :=
  set_rule Tryd.func55 rfl rfl rfl (by kernel_rfl) (by kernel_rfl) rfl rfl rfl (by decide)
set_option maxRecDepth 100000 in
theorem tell_DeleteGroupsResponse_t115 : ∃ G, TellC Tryd.prog 115 sDeleteGroupsResponse_1 G := by
  apply Exists.intro
  apply tell_plain (N := 41) (n := 3) (hf := Tryd.func115) (hN := rfl) (hres := rfl) (hT := tellT) (hok := by rfl) (h4 := by decide) (hne := by decide) (hn := by decide) (hbody := rfl)
  · apply twhole_seq
    · apply tell_str (i := 0) (o := 0) (eb := 5) tellT
      · kernel_rfl
      · kernel_rfl
      · kernel_rfl
      · rfl
      · rfl
      · decide
    · apply twhole_seq
      · apply tell_num (i := 1) (o := 1) (kd := .i16) tellT
        · kernel_rfl
        · kernel_rfl
        · exact kd_i16
        · kernel_rfl
        · kernel_rfl
        · rfl
        · rfl
        · decide
      · apply twhole_seq
        · apply tell_leaf (i := 2) (o := 2) tellT (leaf_text tellT)
          · kernel_rfl
          · rfl
          · kernel_rfl
          · kernel_rfl
          · rfl
          · rfl
          · decide
        · exact twhole_tags tellT tagT rfl (by kernel_rfl) (by rfl) (by kernel_rfl) (by kernel_rfl) (by kernel_rfl) each_spec sorted_spec (clo_rule Tryd.func171 rfl rfl tagT rfl)
set_option maxRecDepth 100000 in
theorem tell_DeleteGroupsResponse : ∃ G, TellC Tryd.prog 57 sDeleteGroupsResponse G := by
  obtain ⟨GDeleteGroupsResponse_t115, hGDeleteGroupsResponse_t115⟩ := tell_DeleteGroupsResponse_t115
  apply Exists.intro
  apply tell_plain (N := 81) (n := 2) (hf := Tryd.func57) (hN := rfl) (hres := rfl) (hT := tellT) (hok := by rfl) (h4 := by decide) (hne := by decide) (hn := by decide) (hbody := rfl)
  · apply twhole_seq
    · apply tell_num (i := 1) (o := 1) (kd := .i32) tellT
      · kernel_rfl
      · kernel_rfl
      · exact kd_i32
      · kernel_rfl
      · kernel_rfl
      · rfl
      · rfl
      · decide
    · apply twhole_list (i := 2) (E := (structT GDeleteGroupsResponse_t115))
      · apply nul_list (i := 2) (o := 2) tellT
        · kernel_rfl
        · kernel_rfl
        · kernel_rfl
        · kernel_rfl
        · kernel_rfl
        · rfl
        · rfl
        · decide
        · decide
      · apply loop_list (i := 2) (o := 2)
        · apply app0_call (es := 100) tellT
          · exact hGDeleteGroupsResponse_t115
          · kernel_rfl
          · rfl
          · rfl
          · kernel_rfl
          · kernel_rfl
          · kernel_rfl
          · rfl
          · kernel_rfl
          · rfl
          · decide
          · decide
        · apply app1_call (es := 100) tellT
          · exact hGDeleteGroupsResponse_t115
          · kernel_rfl
          · rfl
          · rfl
          · kernel_rfl
          · kernel_rfl
          · kernel_rfl
          · rfl
          · kernel_rfl
          · rfl
          · decide
          · decide
        · rfl
        · exact ⟨.bool false, by kernel_rfl, rfl⟩
        · kernel_rfl
        · kernel_rfl
        · kernel_rfl
        · kernel_rfl
        · kernel_rfl
        · rfl
        · rfl
        · rfl
      · exact twhole_tags tellT tagT rfl (by kernel_rfl) (by rfl) (by kernel_rfl) (by kernel_rfl) (by kernel_rfl) each_spec sorted_spec (clo_rule Tryd.func116 rfl rfl tagT rfl)
theorem doors_DeleteGroupsResponse : ∃ ft v1 G, DoorC Tryd.prog 20 fl_DeleteGroupsResponse ft v1 G ∧ DoorC Tryd.prog 21 fl_DeleteGroupsResponse ft v1 G ∧ NsI ft v1 := by
  obtain ⟨ft, hr, hns⟩ := read_DeleteGroupsResponse
  obtain ⟨G, hG⟩ := tell_DeleteGroupsResponse
  refine ⟨ft, v_DeleteGroupsResponse, G, ?_, ?_, hns⟩
  · exact door_rule Tryd.func20 rfl rfl tellT rfl (by kernel_rfl) (by kernel_rfl) (by kernel_rfl) (by kernel_rfl) (by kernel_rfl) (by kernel_rfl) (eb := 5) (by kernel_rfl) (by kernel_rfl) new_DeleteGroupsResponse set_DeleteGroupsResponse (rf_rule Tryd.func56 rfl rfl rfl hr (by kernel_rfl)) hG (by decide)
  · exact door_rule Tryd.func21 rfl rfl tellT rfl (by kernel_rfl) (by kernel_rfl) (by kernel_rfl) (by kernel_rfl) (by kernel_rfl) (by kernel_rfl) (eb := 5) (by kernel_rfl) (by kernel_rfl) new_DeleteGroupsResponse set_DeleteGroupsResponse (rf_rule Tryd.func58 rfl rfl rfl hr (by kernel_rfl)) hG (by decide)
end Go.Proofs.YtadfbhmpehnkeaaDoor
