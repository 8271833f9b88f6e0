/-
  AssignReplicasToDirsResponse: its doors.
-/
import Derived.Test.YtadfbhmpehnkeaaDoorKRAssignReplicasToDirsResponse
import Derived.Test.YtadfbhmpehnkeaaDoorKLaw
set_option linter.unusedSimpArgs false
set_option linter.unusedVariables false
namespace Go.Proofs.YtadfbhmpehnkeaaDoor
open Go Go.RowKit

theorem new_AssignReplicasToDirsResponse : NewC Tryd.prog 59 sAssignReplicasToDirsResponse v_AssignReplicasToDirsResponse := by
  refine new_rule (z := .agg #[.int .i16 0, .int .i32 0, .int .i16 0, .slice none 0 0, .map none]) Tryd.func59 rfl rfl rfl (by kernel_rfl) (by decide) (fun w => ?_) d_sAssignReplicasToDirsResponse (by kernel_rfl)
  exact zero_ok (lay := sAssignReplicasToDirsResponse.lay) (tg := sAssignReplicasToDirsResponse.tg) (z := from' #[.int .i16 0, .int .i32 0, .int .i16 0, .slice none 0 0, .map none] 0) (by repeat' (first | rfl | trivial | apply And.intro)) (by rfl) w _
theorem set_AssignReplicasToDirsResponse : SetC Tryd.prog 61 sAssignReplicasToDirsResponse :=
  set_rule Tryd.func61 rfl rfl rfl (by kernel_rfl) (by kernel_rfl) rfl rfl rfl (by decide)
set_option maxRecDepth 100000 in
theorem tell_AssignReplicasToDirsResponse_t213 : ∃ G, TellC Tryd.prog 213 sAssignReplicasToDirsResponse_3 G := by
  apply Exists.intro
  apply tell_plain (N := 33) (n := 2) (hf := Tryd.func213) (hN := rfl) (hres := rfl) (hT := tellT) (hok := by rfl) (h4 := by decide) (hne := by decide) (hn := by decide) (hbody := rfl)
  · apply twhole_seq
    · apply tell_num (i := 0) (o := 0) (kd := .i32) tellT
      · kernel_rfl
      · kernel_rfl
      · exact kd_i32
      · kernel_rfl
      · kernel_rfl
      · rfl
      · rfl
      · decide
    · apply twhole_seq
      · apply tell_num (i := 1) (o := 1) (kd := .i16) tellT
        · kernel_rfl
        · kernel_rfl
        · exact kd_i16
        · kernel_rfl
        · kernel_rfl
        · rfl
        · rfl
        · decide
      · exact twhole_tags tellT tagT rfl (by kernel_rfl) (by rfl) (by kernel_rfl) (by kernel_rfl) (by kernel_rfl) each_spec sorted_spec (clo_rule Tryd.func241 rfl rfl tagT rfl)
set_option maxRecDepth 100000 in
theorem tell_AssignReplicasToDirsResponse_t176 : ∃ G, TellC Tryd.prog 176 sAssignReplicasToDirsResponse_2 G := by
  obtain ⟨GAssignReplicasToDirsResponse_t213, hGAssignReplicasToDirsResponse_t213⟩ := tell_AssignReplicasToDirsResponse_t213
  apply Exists.intro
  apply tell_plain (N := 81) (n := 2) (hf := Tryd.func176) (hN := rfl) (hres := rfl) (hT := tellT) (hok := by rfl) (h4 := by decide) (hne := by decide) (hn := by decide) (hbody := rfl)
  · apply twhole_seq
    · apply tell_uuid (i := 0) (o := 0) (eb := 5) tellT
      · kernel_rfl
      · kernel_rfl
      · kernel_rfl
      · rfl
      · rfl
      · decide
    · apply twhole_list (i := 1) (E := (structT GAssignReplicasToDirsResponse_t213))
      · apply nul_list (i := 1) (o := 16) tellT
        · kernel_rfl
        · kernel_rfl
        · kernel_rfl
        · kernel_rfl
        · kernel_rfl
        · rfl
        · rfl
        · decide
        · decide
      · apply loop_list (i := 1) (o := 16)
        · apply app0_call (es := 188) tellT
          · exact hGAssignReplicasToDirsResponse_t213
          · kernel_rfl
          · rfl
          · rfl
          · kernel_rfl
          · kernel_rfl
          · kernel_rfl
          · rfl
          · kernel_rfl
          · rfl
          · decide
          · decide
        · apply app1_call (es := 188) tellT
          · exact hGAssignReplicasToDirsResponse_t213
          · kernel_rfl
          · rfl
          · rfl
          · kernel_rfl
          · kernel_rfl
          · kernel_rfl
          · rfl
          · kernel_rfl
          · rfl
          · decide
          · decide
        · rfl
        · exact ⟨.bool false, by kernel_rfl, rfl⟩
        · kernel_rfl
        · kernel_rfl
        · kernel_rfl
        · kernel_rfl
        · kernel_rfl
        · rfl
        · rfl
        · rfl
      · exact twhole_tags tellT tagT rfl (by kernel_rfl) (by rfl) (by kernel_rfl) (by kernel_rfl) (by kernel_rfl) each_spec sorted_spec (clo_rule Tryd.func214 rfl rfl tagT rfl)
set_option maxRecDepth 100000 in
theorem tell_AssignReplicasToDirsResponse_t119 : ∃ G, TellC Tryd.prog 119 sAssignReplicasToDirsResponse_1 G := by
  obtain ⟨GAssignReplicasToDirsResponse_t176, hGAssignReplicasToDirsResponse_t176⟩ := tell_AssignReplicasToDirsResponse_t176
  apply Exists.intro
  apply tell_plain (N := 81) (n := 2) (hf := Tryd.func119) (hN := rfl) (hres := rfl) (hT := tellT) (hok := by rfl) (h4 := by decide) (hne := by decide) (hn := by decide) (hbody := rfl)
  · apply twhole_seq
    · apply tell_uuid (i := 0) (o := 0) (eb := 5) tellT
      · kernel_rfl
      · kernel_rfl
      · kernel_rfl
      · rfl
      · rfl
      · decide
    · apply twhole_list (i := 1) (E := (structT GAssignReplicasToDirsResponse_t176))
      · apply nul_list (i := 1) (o := 16) tellT
        · kernel_rfl
        · kernel_rfl
        · kernel_rfl
        · kernel_rfl
        · kernel_rfl
        · rfl
        · rfl
        · decide
        · decide
      · apply loop_list (i := 1) (o := 16)
        · apply app0_call (es := 185) tellT
          · exact hGAssignReplicasToDirsResponse_t176
          · kernel_rfl
          · rfl
          · rfl
          · kernel_rfl
          · kernel_rfl
          · kernel_rfl
          · rfl
          · kernel_rfl
          · rfl
          · decide
          · decide
        · apply app1_call (es := 185) tellT
          · exact hGAssignReplicasToDirsResponse_t176
          · kernel_rfl
          · rfl
          · rfl
          · kernel_rfl
          · kernel_rfl
          · kernel_rfl
          · rfl
          · kernel_rfl
          · rfl
          · decide
          · decide
        · rfl
        · exact ⟨.bool false, by kernel_rfl, rfl⟩
        · kernel_rfl
        · kernel_rfl
        · kernel_rfl
        · kernel_rfl
        · kernel_rfl
        · rfl
        · rfl
        · rfl
      · exact twhole_tags tellT tagT rfl (by kernel_rfl) (by rfl) (by kernel_rfl) (by kernel_rfl) (by kernel_rfl) each_spec sorted_spec (clo_rule Tryd.func177 rfl rfl tagT rfl)
set_option maxRecDepth 100000 in
theorem tell_AssignReplicasToDirsResponse : ∃ G, TellC Tryd.prog 63 sAssignReplicasToDirsResponse G := by
  obtain ⟨GAssignReplicasToDirsResponse_t119, hGAssignReplicasToDirsResponse_t119⟩ := tell_AssignReplicasToDirsResponse_t119
  apply Exists.intro
  apply tell_plain (N := 90) (n := 3) (hf := Tryd.func63) (hN := rfl) (hres := rfl) (hT := tellT) (hok := by rfl) (h4 := by decide) (hne := by decide) (hn := by decide) (hbody := rfl)
  · apply twhole_seq
    · apply tell_num (i := 1) (o := 1) (kd := .i32) tellT
      · kernel_rfl
      · kernel_rfl
      · exact kd_i32
      · kernel_rfl
      · kernel_rfl
      · rfl
      · rfl
      · decide
    · apply twhole_seq
      · apply tell_num (i := 2) (o := 2) (kd := .i16) tellT
        · kernel_rfl
        · kernel_rfl
        · exact kd_i16
        · kernel_rfl
        · kernel_rfl
        · rfl
        · rfl
        · decide
      · apply twhole_list (i := 3) (E := (structT GAssignReplicasToDirsResponse_t119))
        · apply nul_list (i := 3) (o := 3) tellT
          · kernel_rfl
          · kernel_rfl
          · kernel_rfl
          · kernel_rfl
          · kernel_rfl
          · rfl
          · rfl
          · decide
          · decide
        · apply loop_list (i := 3) (o := 3)
          · apply app0_call (es := 109) tellT
            · exact hGAssignReplicasToDirsResponse_t119
            · kernel_rfl
            · rfl
            · rfl
            · kernel_rfl
            · kernel_rfl
            · kernel_rfl
            · rfl
            · kernel_rfl
            · rfl
            · decide
            · decide
          · apply app1_call (es := 109) tellT
            · exact hGAssignReplicasToDirsResponse_t119
            · kernel_rfl
            · rfl
            · rfl
            · kernel_rfl
            · kernel_rfl
            · kernel_rfl
            · rfl
            · kernel_rfl
            · rfl
            · decide
            · decide
          · rfl
          · exact ⟨.bool false, by kernel_rfl, rfl⟩
          · kernel_rfl
          · kernel_rfl
          · kernel_rfl
          · kernel_rfl
          · kernel_rfl
          · rfl
          · rfl
          · rfl
        · exact twhole_tags tellT tagT rfl (by kernel_rfl) (by rfl) (by kernel_rfl) (by kernel_rfl) (by kernel_rfl) each_spec sorted_spec (clo_rule Tryd.func120 rfl rfl tagT rfl)
theorem doors_AssignReplicasToDirsResponse : ∃ ft v1 G, DoorC Tryd.prog 23 fl_AssignReplicasToDirsResponse ft v1 G ∧ DoorC Tryd.prog 24 fl_AssignReplicasToDirsResponse ft v1 G ∧ NsI ft v1 := by
  obtain ⟨ft, hr, hns⟩ := read_AssignReplicasToDirsResponse
  obtain ⟨G, hG⟩ := tell_AssignReplicasToDirsResponse
  refine ⟨ft, v_AssignReplicasToDirsResponse, G, ?_, ?_, hns⟩
  · exact door_rule Tryd.func23 rfl rfl tellT rfl (by kernel_rfl) (by kernel_rfl) (by kernel_rfl) (by kernel_rfl) (by kernel_rfl) (by kernel_rfl) (eb := 5) (by kernel_rfl) (by kernel_rfl) new_AssignReplicasToDirsResponse set_AssignReplicasToDirsResponse (rf_rule Tryd.func62 rfl rfl rfl hr (by kernel_rfl)) hG (by decide)
  · exact door_rule Tryd.func24 rfl rfl tellT rfl (by kernel_rfl) (by kernel_rfl) (by kernel_rfl) (by kernel_rfl) (by kernel_rfl) (by kernel_rfl) (eb := 5) (by kernel_rfl) (by kernel_rfl) new_AssignReplicasToDirsResponse set_AssignReplicasToDirsResponse (rf_rule Tryd.func64 rfl rfl rfl hr (by kernel_rfl)) hG (by decide)
end Go.Proofs.YtadfbhmpehnkeaaDoor
