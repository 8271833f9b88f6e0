/-
  CreatePartitionsResponse: its doors.
-/
import Derived.Test.YtadfbhmpehnkeaaDoorKRCreatePartitionsResponse
import Derived.Test.YtadfbhmpehnkeaaDoorKLaw
set_option linter.unusedSimpArgs false
set_option linter.unusedVariables false
namespace Go.Proofs.YtadfbhmpehnkeaaDoor
open Go Go.RowKit

theorem new_CreatePartitionsResponse : NewC Tryd.prog 46 sCreatePartitionsResponse v_CreatePartitionsResponse := by
  refine new_rule (z := .agg #[.int .i16 0, .int .i32 0, .slice none 0 0, .map none]) Tryd.func46 rfl rfl rfl (by kernel_rfl) (by decide) (fun w => ?_) d_sCreatePartitionsResponse (by kernel_rfl)
  exact zero_ok (lay := sCreatePartitionsResponse.lay) (tg := sCreatePartitionsResponse.tg) (z := from' #[.int .i16 0, .int .i32 0, .slice none 0 0, .map none] 0) (by repeat' (first | rfl | trivial | apply And.intro)) (by rfl) w _
theorem set_CreatePartitionsResponse : SetC Tryd.prog 48 sCreatePartitionsResponse :=
  set_rule Tryd.func48 rfl rfl rfl (by kernel_rfl) (by kernel_rfl) rfl rfl rfl (by decide)
set_option maxRecDepth 100000 in
theorem tell_CreatePartitionsResponse_t109 : ∃ G, TellC Tryd.prog 109 sCreatePartitionsResponse_1 G := by
  apply Exists.intro
  apply tell_plain (N := 41) (n := 3) (hf := Tryd.func109) (hN := rfl) (hres := rfl) (hT := tellT) (hok := by rfl) (h4 := by decide) (hne := by decide) (hn := by decide) (hbody := rfl)
  · apply twhole_seq
    · apply tell_str (i := 0) (o := 0) (eb := 5) tellT
      · kernel_rfl
      · kernel_rfl
      · kernel_rfl
      · rfl
      · rfl
      · decide
    · apply twhole_seq
      · apply tell_num (i := 1) (o := 1) (kd := .i16) tellT
        · kernel_rfl
        · kernel_rfl
        · exact kd_i16
        · kernel_rfl
        · kernel_rfl
        · rfl
        · rfl
        · decide
      · apply twhole_seq
        · apply tell_leaf (i := 2) (o := 2) tellT (leaf_text tellT)
          · kernel_rfl
          · rfl
          · kernel_rfl
          · kernel_rfl
          · rfl
          · rfl
          · decide
        · exact twhole_tags tellT tagT rfl (by kernel_rfl) (by rfl) (by kernel_rfl) (by kernel_rfl) (by kernel_rfl) each_spec sorted_spec (clo_rule Tryd.func167 rfl rfl tagT rfl)
set_option maxRecDepth 100000 in
theorem tell_CreatePartitionsResponse : ∃ G, TellC Tryd.prog 50 sCreatePartitionsResponse G := by
  obtain ⟨GCreatePartitionsResponse_t109, hGCreatePartitionsResponse_t109⟩ := tell_CreatePartitionsResponse_t109
  apply Exists.intro
  apply tell_plain (N := 81) (n := 2) (hf := Tryd.func50) (hN := rfl) (hres := rfl) (hT := tellT) (hok := by rfl) (h4 := by decide) (hne := by decide) (hn := by decide) (hbody := rfl)
  · apply twhole_seq
    · apply tell_num (i := 1) (o := 1) (kd := .i32) tellT
      · kernel_rfl
      · kernel_rfl
      · exact kd_i32
      · kernel_rfl
      · kernel_rfl
      · rfl
      · rfl
      · decide
    · apply twhole_list (i := 2) (E := (structT GCreatePartitionsResponse_t109))
      · apply nul_list (i := 2) (o := 2) tellT
        · kernel_rfl
        · kernel_rfl
        · kernel_rfl
        · kernel_rfl
        · kernel_rfl
        · rfl
        · rfl
        · decide
        · decide
      · apply loop_list (i := 2) (o := 2)
        · apply app0_call (es := 90) tellT
          · exact hGCreatePartitionsResponse_t109
          · kernel_rfl
          · rfl
          · rfl
          · kernel_rfl
          · kernel_rfl
          · kernel_rfl
          · rfl
          · kernel_rfl
          · rfl
          · decide
          · decide
        · apply app1_call (es := 90) tellT
          · exact hGCreatePartitionsResponse_t109
          · kernel_rfl
          · rfl
          · rfl
          · kernel_rfl
          · kernel_rfl
          · kernel_rfl
          · rfl
          · kernel_rfl
          · rfl
          · decide
          · decide
        · rfl
        · exact ⟨.bool false, by kernel_rfl, rfl⟩
        · kernel_rfl
        · kernel_rfl
        · kernel_rfl
        · kernel_rfl
        · kernel_rfl
        · rfl
        · rfl
        · rfl
      · exact twhole_tags tellT tagT rfl (by kernel_rfl) (by rfl) (by kernel_rfl) (by kernel_rfl) (by kernel_rfl) each_spec sorted_spec (clo_rule Tryd.func111 rfl rfl tagT rfl)
theorem doors_CreatePartitionsResponse : ∃ ft v1 G, DoorC Tryd.prog 14 fl_CreatePartitionsResponse ft v1 G ∧ DoorC Tryd.prog 16 fl_CreatePartitionsResponse ft v1 G ∧ NsI ft v1 := by
  obtain ⟨ft, hr, hns⟩ := read_CreatePartitionsResponse
  obtain ⟨G, hG⟩ := tell_CreatePartitionsResponse
  refine ⟨ft, v_CreatePartitionsResponse, G, ?_, ?_, hns⟩
  · exact door_rule Tryd.func14 rfl rfl tellT rfl (by kernel_rfl) (by kernel_rfl) (by kernel_rfl) (by kernel_rfl) (by kernel_rfl) (by kernel_rfl) (eb := 5) (by kernel_rfl) (by kernel_rfl) new_CreatePartitionsResponse set_CreatePartitionsResponse (rf_rule Tryd.func49 rfl rfl rfl hr (by kernel_rfl)) hG (by decide)
  · exact door_rule Tryd.func16 rfl rfl tellT rfl (by kernel_rfl) (by kernel_rfl) (by kernel_rfl) (by kernel_rfl) (by kernel_rfl) (by kernel_rfl) (eb := 5) (by kernel_rfl) (by kernel_rfl) new_CreatePartitionsResponse set_CreatePartitionsResponse (rf_rule Tryd.func51 rfl rfl rfl hr (by kernel_rfl)) hG (by decide)
end Go.Proofs.YtadfbhmpehnkeaaDoor
