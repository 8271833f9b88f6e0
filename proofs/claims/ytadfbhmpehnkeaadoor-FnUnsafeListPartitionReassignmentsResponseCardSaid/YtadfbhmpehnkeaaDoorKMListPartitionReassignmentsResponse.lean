/-
  ListPartitionReassignmentsResponse: its doors.
-/
import Derived.Test.YtadfbhmpehnkeaaDoorKRListPartitionReassignmentsResponse
import Derived.Test.YtadfbhmpehnkeaaDoorKLaw
set_option linter.unusedSimpArgs false
set_option linter.unusedVariables false
namespace Go.Proofs.YtadfbhmpehnkeaaDoor
open Go Go.RowKit

theorem new_ListPartitionReassignmentsResponse : NewC Tryd.prog 89 sListPartitionReassignmentsResponse v_ListPartitionReassignmentsResponse := by
  refine new_rule (z := .agg #[.int .i16 0, .int .i32 0, .int .i16 0, .pointer none, .slice none 0 0, .map none]) Tryd.func89 rfl rfl rfl (by kernel_rfl) (by decide) (fun w => ?_) d_sListPartitionReassignmentsResponse (by kernel_rfl)
  exact zero_ok (lay := sListPartitionReassignmentsResponse.lay) (tg := sListPartitionReassignmentsResponse.tg) (z := from' #[.int .i16 0, .int .i32 0, .int .i16 0, .pointer none, .slice none 0 0, .map none] 0) (by repeat' (first | rfl | trivial | apply And.intro)) (by rfl) w _
theorem set_ListPartitionReassignmentsResponse : SetC Tryd.prog 91 sListPartitionReassignmentsResponse :=
  set_rule Tryd.func91 rfl rfl rfl (by kernel_rfl) (by kernel_rfl) rfl rfl rfl (by decide)
set_option maxRecDepth 100000 in
theorem tell_ListPartitionReassignmentsResponse_t193 : ∃ G, TellC Tryd.prog 193 sListPartitionReassignmentsResponse_2 G := by
  apply Exists.intro
  apply tell_plain (N := 207) (n := 4) (hf := Tryd.func193) (hN := rfl) (hres := rfl) (hT := tellT) (hok := by rfl) (h4 := by decide) (hne := by decide) (hn := by decide) (hbody := rfl)
  · apply twhole_seq
    · apply tell_num (i := 0) (o := 0) (kd := .i32) tellT
      · kernel_rfl
      · kernel_rfl
      · exact kd_i32
      · kernel_rfl
      · kernel_rfl
      · rfl
      · rfl
      · decide
    · apply twhole_list (i := 1) (E := id)
      · apply nul_list (i := 1) (o := 1) tellT
        · kernel_rfl
        · kernel_rfl
        · kernel_rfl
        · kernel_rfl
        · kernel_rfl
        · rfl
        · rfl
        · decide
        · decide
      · apply loop_list (i := 1) (o := 1)
        · apply app0_num (kd := .i32) tellT
          · kernel_rfl
          · kernel_rfl
          · exact kd_i32
          · kernel_rfl
          · kernel_rfl
          · kernel_rfl
          · kernel_rfl
          · rfl
          · kernel_rfl
          · rfl
          · decide
          · decide
        · apply app1_num (kd := .i32) tellT
          · kernel_rfl
          · kernel_rfl
          · exact kd_i32
          · kernel_rfl
          · kernel_rfl
          · kernel_rfl
          · kernel_rfl
          · rfl
          · kernel_rfl
          · rfl
          · decide
          · decide
        · rfl
        · exact ⟨.bool false, by kernel_rfl, rfl⟩
        · kernel_rfl
        · kernel_rfl
        · kernel_rfl
        · kernel_rfl
        · kernel_rfl
        · rfl
        · rfl
        · rfl
      · apply twhole_list (i := 2) (E := id)
        · apply nul_list (i := 2) (o := 2) tellT
          · kernel_rfl
          · kernel_rfl
          · kernel_rfl
          · kernel_rfl
          · kernel_rfl
          · rfl
          · rfl
          · decide
          · decide
        · apply loop_list (i := 2) (o := 2)
          · apply app0_num (kd := .i32) tellT
            · kernel_rfl
            · kernel_rfl
            · exact kd_i32
            · kernel_rfl
            · kernel_rfl
            · kernel_rfl
            · kernel_rfl
            · rfl
            · kernel_rfl
            · rfl
            · decide
            · decide
          · apply app1_num (kd := .i32) tellT
            · kernel_rfl
            · kernel_rfl
            · exact kd_i32
            · kernel_rfl
            · kernel_rfl
            · kernel_rfl
            · kernel_rfl
            · rfl
            · kernel_rfl
            · rfl
            · decide
            · decide
          · rfl
          · exact ⟨.bool false, by kernel_rfl, rfl⟩
          · kernel_rfl
          · kernel_rfl
          · kernel_rfl
          · kernel_rfl
          · kernel_rfl
          · rfl
          · rfl
          · rfl
        · apply twhole_list (i := 3) (E := id)
          · apply nul_list (i := 3) (o := 3) tellT
            · kernel_rfl
            · kernel_rfl
            · kernel_rfl
            · kernel_rfl
            · kernel_rfl
            · rfl
            · rfl
            · decide
            · decide
          · apply loop_list (i := 3) (o := 3)
            · apply app0_num (kd := .i32) tellT
              · kernel_rfl
              · kernel_rfl
              · exact kd_i32
              · kernel_rfl
              · kernel_rfl
              · kernel_rfl
              · kernel_rfl
              · rfl
              · kernel_rfl
              · rfl
              · decide
              · decide
            · apply app1_num (kd := .i32) tellT
              · kernel_rfl
              · kernel_rfl
              · exact kd_i32
              · kernel_rfl
              · kernel_rfl
              · kernel_rfl
              · kernel_rfl
              · rfl
              · kernel_rfl
              · rfl
              · decide
              · decide
            · rfl
            · exact ⟨.bool false, by kernel_rfl, rfl⟩
            · kernel_rfl
            · kernel_rfl
            · kernel_rfl
            · kernel_rfl
            · kernel_rfl
            · rfl
            · rfl
            · rfl
          · exact twhole_tags tellT tagT rfl (by kernel_rfl) (by rfl) (by kernel_rfl) (by kernel_rfl) (by kernel_rfl) each_spec sorted_spec (clo_rule Tryd.func218 rfl rfl tagT rfl)
set_option maxRecDepth 100000 in
theorem tell_ListPartitionReassignmentsResponse_t141 : ∃ G, TellC Tryd.prog 141 sListPartitionReassignmentsResponse_1 G := by
  obtain ⟨GListPartitionReassignmentsResponse_t193, hGListPartitionReassignmentsResponse_t193⟩ := tell_ListPartitionReassignmentsResponse_t193
  apply Exists.intro
  apply tell_plain (N := 81) (n := 2) (hf := Tryd.func141) (hN := rfl) (hres := rfl) (hT := tellT) (hok := by rfl) (h4 := by decide) (hne := by decide) (hn := by decide) (hbody := rfl)
  · apply twhole_seq
    · apply tell_str (i := 0) (o := 0) (eb := 5) tellT
      · kernel_rfl
      · kernel_rfl
      · kernel_rfl
      · rfl
      · rfl
      · decide
    · apply twhole_list (i := 1) (E := (structT GListPartitionReassignmentsResponse_t193))
      · apply nul_list (i := 1) (o := 1) tellT
        · kernel_rfl
        · kernel_rfl
        · kernel_rfl
        · kernel_rfl
        · kernel_rfl
        · rfl
        · rfl
        · decide
        · decide
      · apply loop_list (i := 1) (o := 1)
        · apply app0_call (es := 203) tellT
          · exact hGListPartitionReassignmentsResponse_t193
          · kernel_rfl
          · rfl
          · rfl
          · kernel_rfl
          · kernel_rfl
          · kernel_rfl
          · rfl
          · kernel_rfl
          · rfl
          · decide
          · decide
        · apply app1_call (es := 203) tellT
          · exact hGListPartitionReassignmentsResponse_t193
          · kernel_rfl
          · rfl
          · rfl
          · kernel_rfl
          · kernel_rfl
          · kernel_rfl
          · rfl
          · kernel_rfl
          · rfl
          · decide
          · decide
        · rfl
        · exact ⟨.bool false, by kernel_rfl, rfl⟩
        · kernel_rfl
        · kernel_rfl
        · kernel_rfl
        · kernel_rfl
        · kernel_rfl
        · rfl
        · rfl
        · rfl
      · exact twhole_tags tellT tagT rfl (by kernel_rfl) (by rfl) (by kernel_rfl) (by kernel_rfl) (by kernel_rfl) each_spec sorted_spec (clo_rule Tryd.func194 rfl rfl tagT rfl)
set_option maxRecDepth 100000 in
theorem tell_ListPartitionReassignmentsResponse : ∃ G, TellC Tryd.prog 93 sListPartitionReassignmentsResponse G := by
  obtain ⟨GListPartitionReassignmentsResponse_t141, hGListPartitionReassignmentsResponse_t141⟩ := tell_ListPartitionReassignmentsResponse_t141
  apply Exists.intro
  apply tell_plain (N := 98) (n := 4) (hf := Tryd.func93) (hN := rfl) (hres := rfl) (hT := tellT) (hok := by rfl) (h4 := by decide) (hne := by decide) (hn := by decide) (hbody := rfl)
  · apply twhole_seq
    · apply tell_num (i := 1) (o := 1) (kd := .i32) tellT
      · kernel_rfl
      · kernel_rfl
      · exact kd_i32
      · kernel_rfl
      · kernel_rfl
      · rfl
      · rfl
      · decide
    · apply twhole_seq
      · apply tell_num (i := 2) (o := 2) (kd := .i16) tellT
        · kernel_rfl
        · kernel_rfl
        · exact kd_i16
        · kernel_rfl
        · kernel_rfl
        · rfl
        · rfl
        · decide
      · apply twhole_seq
        · apply tell_leaf (i := 3) (o := 3) tellT (leaf_text tellT)
          · kernel_rfl
          · rfl
          · kernel_rfl
          · kernel_rfl
          · rfl
          · rfl
          · decide
        · apply twhole_list (i := 4) (E := (structT GListPartitionReassignmentsResponse_t141))
          · apply nul_list (i := 4) (o := 4) tellT
            · kernel_rfl
            · kernel_rfl
            · kernel_rfl
            · kernel_rfl
            · kernel_rfl
            · rfl
            · rfl
            · decide
            · decide
          · apply loop_list (i := 4) (o := 4)
            · apply app0_call (es := 150) tellT
              · exact hGListPartitionReassignmentsResponse_t141
              · kernel_rfl
              · rfl
              · rfl
              · kernel_rfl
              · kernel_rfl
              · kernel_rfl
              · rfl
              · kernel_rfl
              · rfl
              · decide
              · decide
            · apply app1_call (es := 150) tellT
              · exact hGListPartitionReassignmentsResponse_t141
              · kernel_rfl
              · rfl
              · rfl
              · kernel_rfl
              · kernel_rfl
              · kernel_rfl
              · rfl
              · kernel_rfl
              · rfl
              · decide
              · decide
            · rfl
            · exact ⟨.bool false, by kernel_rfl, rfl⟩
            · kernel_rfl
            · kernel_rfl
            · kernel_rfl
            · kernel_rfl
            · kernel_rfl
            · rfl
            · rfl
            · rfl
          · exact twhole_tags tellT tagT rfl (by kernel_rfl) (by rfl) (by kernel_rfl) (by kernel_rfl) (by kernel_rfl) each_spec sorted_spec (clo_rule Tryd.func142 rfl rfl tagT rfl)
theorem doors_ListPartitionReassignmentsResponse : ∃ ft v1 G, DoorC Tryd.prog 38 fl_ListPartitionReassignmentsResponse ft v1 G ∧ DoorC Tryd.prog 39 fl_ListPartitionReassignmentsResponse ft v1 G ∧ NsI ft v1 := by
  obtain ⟨ft, hr, hns⟩ := read_ListPartitionReassignmentsResponse
  obtain ⟨G, hG⟩ := tell_ListPartitionReassignmentsResponse
  refine ⟨ft, v_ListPartitionReassignmentsResponse, G, ?_, ?_, hns⟩
  · exact door_rule Tryd.func38 rfl rfl tellT rfl (by kernel_rfl) (by kernel_rfl) (by kernel_rfl) (by kernel_rfl) (by kernel_rfl) (by kernel_rfl) (eb := 5) (by kernel_rfl) (by kernel_rfl) new_ListPartitionReassignmentsResponse set_ListPartitionReassignmentsResponse (rf_rule Tryd.func92 rfl rfl rfl hr (by kernel_rfl)) hG (by decide)
  · exact door_rule Tryd.func39 rfl rfl tellT rfl (by kernel_rfl) (by kernel_rfl) (by kernel_rfl) (by kernel_rfl) (by kernel_rfl) (by kernel_rfl) (eb := 5) (by kernel_rfl) (by kernel_rfl) new_ListPartitionReassignmentsResponse set_ListPartitionReassignmentsResponse (rf_rule Tryd.func94 rfl rfl rfl hr (by kernel_rfl)) hG (by decide)
end Go.Proofs.YtadfbhmpehnkeaaDoor
