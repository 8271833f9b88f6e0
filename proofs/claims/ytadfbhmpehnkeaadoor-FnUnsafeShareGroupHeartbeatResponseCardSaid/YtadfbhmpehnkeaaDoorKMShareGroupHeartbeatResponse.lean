/-
  ShareGroupHeartbeatResponse: its doors.
-/
import Derived.Test.YtadfbhmpehnkeaaDoorKRShareGroupHeartbeatResponse
import Derived.Test.YtadfbhmpehnkeaaDoorKLaw
set_option linter.unusedSimpArgs false
set_option linter.unusedVariables false
namespace Go.Proofs.YtadfbhmpehnkeaaDoor
open Go Go.RowKit

theorem new_ShareGroupHeartbeatResponse : NewC Tryd.prog 83 sShareGroupHeartbeatResponse v_ShareGroupHeartbeatResponse := by
  refine new_rule (z := .agg #[.int .i16 0, .int .i32 0, .int .i16 0, .pointer none, .pointer none, .int .i32 0, .int .i32 0, .pointer none, .map none]) Tryd.func83 rfl rfl rfl (by kernel_rfl) (by decide) (fun w => ?_) d_sShareGroupHeartbeatResponse (by kernel_rfl)
  exact zero_ok (lay := sShareGroupHeartbeatResponse.lay) (tg := sShareGroupHeartbeatResponse.tg) (z := from' #[.int .i16 0, .int .i32 0, .int .i16 0, .pointer none, .pointer none, .int .i32 0, .int .i32 0, .pointer none, .map none] 0) (by repeat' (first | rfl | trivial | apply And.intro)) (by rfl) w _
theorem set_ShareGroupHeartbeatResponse : SetC Tryd.prog 85 sShareGroupHeartbeatResponse :=
  set_rule Tryd.func85 rfl rfl rfl (by kernel_rfl) (by kernel_rfl) rfl rfl rfl (by decide)
set_option maxRecDepth 100000 in
theorem tell_ShareGroupHeartbeatResponse_t216 : ∃ G, TellC Tryd.prog 216 sShareGroupHeartbeatResponse_2 G := by
  apply Exists.intro
  apply tell_plain (N := 85) (n := 2) (hf := Tryd.func216) (hN := rfl) (hres := rfl) (hT := tellT) (hok := by rfl) (h4 := by decide) (hne := by decide) (hn := by decide) (hbody := rfl)
  · apply twhole_seq
    · apply tell_uuid (i := 0) (o := 0) (eb := 5) tellT
      · kernel_rfl
      · kernel_rfl
      · kernel_rfl
      · rfl
      · rfl
      · decide
    · apply twhole_list (i := 1) (E := id)
      · apply nul_list (i := 1) (o := 16) tellT
        · kernel_rfl
        · kernel_rfl
        · kernel_rfl
        · kernel_rfl
        · kernel_rfl
        · rfl
        · rfl
        · decide
        · decide
      · apply loop_list (i := 1) (o := 16)
        · apply app0_num (kd := .i32) tellT
          · kernel_rfl
          · kernel_rfl
          · exact kd_i32
          · kernel_rfl
          · kernel_rfl
          · kernel_rfl
          · kernel_rfl
          · rfl
          · kernel_rfl
          · rfl
          · decide
          · decide
        · apply app1_num (kd := .i32) tellT
          · kernel_rfl
          · kernel_rfl
          · exact kd_i32
          · kernel_rfl
          · kernel_rfl
          · kernel_rfl
          · kernel_rfl
          · rfl
          · kernel_rfl
          · rfl
          · decide
          · decide
        · rfl
        · exact ⟨.bool false, by kernel_rfl, rfl⟩
        · kernel_rfl
        · kernel_rfl
        · kernel_rfl
        · kernel_rfl
        · kernel_rfl
        · rfl
        · rfl
        · rfl
      · exact twhole_tags tellT tagT rfl (by kernel_rfl) (by rfl) (by kernel_rfl) (by kernel_rfl) (by kernel_rfl) each_spec sorted_spec (clo_rule Tryd.func242 rfl rfl tagT rfl)
set_option maxRecDepth 100000 in
theorem tell_ShareGroupHeartbeatResponse_t190 : ∃ G, TellC Tryd.prog 190 sShareGroupHeartbeatResponse_1 G := by
  obtain ⟨GShareGroupHeartbeatResponse_t216, hGShareGroupHeartbeatResponse_t216⟩ := tell_ShareGroupHeartbeatResponse_t216
  apply Exists.intro
  apply tell_plain (N := 72) (n := 1) (hf := Tryd.func190) (hN := rfl) (hres := rfl) (hT := tellT) (hok := by rfl) (h4 := by decide) (hne := by decide) (hn := by decide) (hbody := rfl)
  · apply twhole_list (i := 0) (E := (structT GShareGroupHeartbeatResponse_t216))
    · apply nul_list (i := 0) (o := 0) tellT
      · kernel_rfl
      · kernel_rfl
      · kernel_rfl
      · kernel_rfl
      · kernel_rfl
      · rfl
      · rfl
      · decide
      · decide
    · apply loop_list (i := 0) (o := 0)
      · apply app0_call (es := 200) tellT
        · exact hGShareGroupHeartbeatResponse_t216
        · kernel_rfl
        · rfl
        · rfl
        · kernel_rfl
        · kernel_rfl
        · kernel_rfl
        · rfl
        · kernel_rfl
        · rfl
        · decide
        · decide
      · apply app1_call (es := 200) tellT
        · exact hGShareGroupHeartbeatResponse_t216
        · kernel_rfl
        · rfl
        · rfl
        · kernel_rfl
        · kernel_rfl
        · kernel_rfl
        · rfl
        · kernel_rfl
        · rfl
        · decide
        · decide
      · rfl
      · exact ⟨.bool false, by kernel_rfl, rfl⟩
      · kernel_rfl
      · kernel_rfl
      · kernel_rfl
      · kernel_rfl
      · kernel_rfl
      · rfl
      · rfl
      · rfl
    · exact twhole_tags tellT tagT rfl (by kernel_rfl) (by rfl) (by kernel_rfl) (by kernel_rfl) (by kernel_rfl) each_spec sorted_spec (clo_rule Tryd.func217 rfl rfl tagT rfl)
set_option maxRecDepth 100000 in
theorem tell_ShareGroupHeartbeatResponse : ∃ G, TellC Tryd.prog 87 sShareGroupHeartbeatResponse G := by
  obtain ⟨GShareGroupHeartbeatResponse_t190, hGShareGroupHeartbeatResponse_t190⟩ := tell_ShareGroupHeartbeatResponse_t190
  apply Exists.intro
  apply tell_plain (N := 75) (n := 7) (hf := Tryd.func87) (hN := rfl) (hres := rfl) (hT := tellT) (hok := by rfl) (h4 := by decide) (hne := by decide) (hn := by decide) (hbody := rfl)
  · apply twhole_seq
    · apply tell_num (i := 1) (o := 1) (kd := .i32) tellT
      · kernel_rfl
      · kernel_rfl
      · exact kd_i32
      · kernel_rfl
      · kernel_rfl
      · rfl
      · rfl
      · decide
    · apply twhole_seq
      · apply tell_num (i := 2) (o := 2) (kd := .i16) tellT
        · kernel_rfl
        · kernel_rfl
        · exact kd_i16
        · kernel_rfl
        · kernel_rfl
        · rfl
        · rfl
        · decide
      · apply twhole_seq
        · apply tell_leaf (i := 3) (o := 3) tellT (leaf_text tellT)
          · kernel_rfl
          · rfl
          · kernel_rfl
          · kernel_rfl
          · rfl
          · rfl
          · decide
        · apply twhole_seq
          · apply tell_leaf (i := 4) (o := 4) tellT (leaf_text tellT)
            · kernel_rfl
            · rfl
            · kernel_rfl
            · kernel_rfl
            · rfl
            · rfl
            · decide
          · apply twhole_seq
            · apply tell_num (i := 5) (o := 5) (kd := .i32) tellT
              · kernel_rfl
              · kernel_rfl
              · exact kd_i32
              · kernel_rfl
              · kernel_rfl
              · rfl
              · rfl
              · decide
            · apply twhole_seq
              · apply tell_num (i := 6) (o := 6) (kd := .i32) tellT
                · kernel_rfl
                · kernel_rfl
                · exact kd_i32
                · kernel_rfl
                · kernel_rfl
                · rfl
                · rfl
                · decide
              · apply twhole_seq
                · apply tell_leafE (i := 7) (o := 7) (E := pstructT GShareGroupHeartbeatResponse_t190) tellT
                  · exact leaf_ptr Tryd.func137 rfl rfl tellT hGShareGroupHeartbeatResponse_t190 (by kernel_rfl) (by kernel_rfl) rfl
                  · kernel_rfl
                  · rfl
                  · kernel_rfl
                  · kernel_rfl
                  · rfl
                  · rfl
                  · decide
                · exact twhole_tags tellT tagT rfl (by kernel_rfl) (by rfl) (by kernel_rfl) (by kernel_rfl) (by kernel_rfl) each_spec sorted_spec (clo_rule Tryd.func138 rfl rfl tagT rfl)
theorem doors_ShareGroupHeartbeatResponse : ∃ ft v1 G, DoorC Tryd.prog 35 fl_ShareGroupHeartbeatResponse ft v1 G ∧ DoorC Tryd.prog 36 fl_ShareGroupHeartbeatResponse ft v1 G ∧ NsI ft v1 := by
  obtain ⟨ft, hr, hns⟩ := read_ShareGroupHeartbeatResponse
  obtain ⟨G, hG⟩ := tell_ShareGroupHeartbeatResponse
  refine ⟨ft, v_ShareGroupHeartbeatResponse, G, ?_, ?_, hns⟩
  · exact door_rule Tryd.func35 rfl rfl tellT rfl (by kernel_rfl) (by kernel_rfl) (by kernel_rfl) (by kernel_rfl) (by kernel_rfl) (by kernel_rfl) (eb := 5) (by kernel_rfl) (by kernel_rfl) new_ShareGroupHeartbeatResponse set_ShareGroupHeartbeatResponse (rf_rule Tryd.func86 rfl rfl rfl hr (by kernel_rfl)) hG (by decide)
  · exact door_rule Tryd.func36 rfl rfl tellT rfl (by kernel_rfl) (by kernel_rfl) (by kernel_rfl) (by kernel_rfl) (by kernel_rfl) (by kernel_rfl) (eb := 5) (by kernel_rfl) (by kernel_rfl) new_ShareGroupHeartbeatResponse set_ShareGroupHeartbeatResponse (rf_rule Tryd.func88 rfl rfl rfl hr (by kernel_rfl)) hG (by decide)
end Go.Proofs.YtadfbhmpehnkeaaDoor
