/-
  ShareAcknowledgeResponse: its doors.
-/
import Derived.Test.YtidkekohcmejlaaDoorKRShareAcknowledgeResponse
import Derived.Test.YtidkekohcmejlaaDoorKLaw
set_option linter.unusedSimpArgs false
set_option linter.unusedVariables false
namespace Go.Proofs.YtidkekohcmejlaaDoor
open Go Go.RowKit

theorem new_ShareAcknowledgeResponse : NewC Tryd.prog 38 sShareAcknowledgeResponse v_ShareAcknowledgeResponse := by
  refine new_rule (z := .agg #[.int .i16 0, .int .i32 0, .int .i16 0, .pointer none, .int .i32 0, .slice none 0 0, .slice none 0 0, .map none]) Tryd.func38 rfl rfl rfl (by kernel_rfl) (by decide) (fun w => ?_) d_sShareAcknowledgeResponse (by kernel_rfl)
  exact zero_ok (lay := sShareAcknowledgeResponse.lay) (tg := sShareAcknowledgeResponse.tg) (z := from' #[.int .i16 0, .int .i32 0, .int .i16 0, .pointer none, .int .i32 0, .slice none 0 0, .slice none 0 0, .map none] 0) (by repeat' (first | rfl | trivial | apply And.intro)) (by rfl) w _
theorem set_ShareAcknowledgeResponse : SetC Tryd.prog 40 sShareAcknowledgeResponse :=
  set_rule Tryd.func40 rfl rfl rfl (by kernel_rfl) (by kernel_rfl) rfl rfl rfl (by decide)
set_option maxRecDepth 100000 in
theorem tell_ShareAcknowledgeResponse_t163 : ∃ G, TellC Tryd.prog 163 sShareAcknowledgeResponse_3 G := by
  apply Exists.intro
  apply tell_plain (N := 33) (n := 2) (hf := Tryd.func163) (hN := rfl) (hres := rfl) (hT := tellT) (hok := by rfl) (h4 := by decide) (hne := by decide) (hn := by decide) (hbody := rfl)
  · apply twhole_seq
    · apply tell_num (i := 0) (o := 0) (kd := .i32) tellT
      · kernel_rfl
      · kernel_rfl
      · exact kd_i32
      · kernel_rfl
      · kernel_rfl
      · rfl
      · rfl
      · decide
    · apply twhole_seq
      · apply tell_num (i := 1) (o := 1) (kd := .i32) tellT
        · kernel_rfl
        · kernel_rfl
        · exact kd_i32
        · kernel_rfl
        · kernel_rfl
        · rfl
        · rfl
        · decide
      · exact twhole_tags tellT tagT rfl (by kernel_rfl) (by rfl) (by kernel_rfl) (by kernel_rfl) (by kernel_rfl) each_spec sorted_spec (clo_rule Tryd.func173 rfl rfl tagT rfl)
set_option maxRecDepth 100000 in
theorem tell_ShareAcknowledgeResponse_t143 : ∃ G, TellC Tryd.prog 143 sShareAcknowledgeResponse_2 G := by
  obtain ⟨GShareAcknowledgeResponse_t163, hGShareAcknowledgeResponse_t163⟩ := tell_ShareAcknowledgeResponse_t163
  apply Exists.intro
  apply tell_plain (N := 48) (n := 4) (hf := Tryd.func143) (hN := rfl) (hres := rfl) (hT := tellT) (hok := by rfl) (h4 := by decide) (hne := by decide) (hn := by decide) (hbody := rfl)
  · apply twhole_seq
    · apply tell_num (i := 0) (o := 0) (kd := .i32) tellT
      · kernel_rfl
      · kernel_rfl
      · exact kd_i32
      · kernel_rfl
      · kernel_rfl
      · rfl
      · rfl
      · decide
    · apply twhole_seq
      · apply tell_num (i := 1) (o := 1) (kd := .i16) tellT
        · kernel_rfl
        · kernel_rfl
        · exact kd_i16
        · kernel_rfl
        · kernel_rfl
        · rfl
        · rfl
        · decide
      · apply twhole_seq
        · apply tell_leaf (i := 2) (o := 2) tellT (leaf_text tellT)
          · kernel_rfl
          · rfl
          · kernel_rfl
          · kernel_rfl
          · rfl
          · rfl
          · decide
        · apply twhole_seq
          · apply tell_part (i := 3) (o := 3) tellT
            · exact hGShareAcknowledgeResponse_t163
            · kernel_rfl
            · kernel_rfl
            · rfl
            · rfl
            · rfl
            · decide
          · exact twhole_tags tellT tagT rfl (by kernel_rfl) (by rfl) (by kernel_rfl) (by kernel_rfl) (by kernel_rfl) each_spec sorted_spec (clo_rule Tryd.func164 rfl rfl tagT rfl)
set_option maxRecDepth 100000 in
theorem tell_ShareAcknowledgeResponse_t89 : ∃ G, TellC Tryd.prog 89 sShareAcknowledgeResponse_1 G := by
  obtain ⟨GShareAcknowledgeResponse_t143, hGShareAcknowledgeResponse_t143⟩ := tell_ShareAcknowledgeResponse_t143
  apply Exists.intro
  apply tell_plain (N := 81) (n := 2) (hf := Tryd.func89) (hN := rfl) (hres := rfl) (hT := tellT) (hok := by rfl) (h4 := by decide) (hne := by decide) (hn := by decide) (hbody := rfl)
  · apply twhole_seq
    · apply tell_uuid (i := 0) (o := 0) (eb := 5) tellT
      · kernel_rfl
      · kernel_rfl
      · kernel_rfl
      · rfl
      · rfl
      · decide
    · apply twhole_list (i := 1) (E := (structT GShareAcknowledgeResponse_t143))
      · apply nul_list (i := 1) (o := 16) tellT
        · kernel_rfl
        · kernel_rfl
        · kernel_rfl
        · kernel_rfl
        · kernel_rfl
        · rfl
        · rfl
        · decide
        · decide
      · apply loop_list (i := 1) (o := 16)
        · apply app0_call (es := 152) tellT
          · exact hGShareAcknowledgeResponse_t143
          · kernel_rfl
          · rfl
          · rfl
          · kernel_rfl
          · kernel_rfl
          · kernel_rfl
          · rfl
          · kernel_rfl
          · rfl
          · decide
          · decide
        · apply app1_call (es := 152) tellT
          · exact hGShareAcknowledgeResponse_t143
          · kernel_rfl
          · rfl
          · rfl
          · kernel_rfl
          · kernel_rfl
          · kernel_rfl
          · rfl
          · kernel_rfl
          · rfl
          · decide
          · decide
        · rfl
        · exact ⟨.bool false, by kernel_rfl, rfl⟩
        · kernel_rfl
        · kernel_rfl
        · kernel_rfl
        · kernel_rfl
        · kernel_rfl
        · rfl
        · rfl
        · rfl
      · exact twhole_tags tellT tagT rfl (by kernel_rfl) (by rfl) (by kernel_rfl) (by kernel_rfl) (by kernel_rfl) each_spec sorted_spec (clo_rule Tryd.func144 rfl rfl tagT rfl)
set_option maxRecDepth 100000 in
theorem tell_ShareAcknowledgeResponse_t90 : ∃ G, TellC Tryd.prog 90 sShareAcknowledgeResponse_4 G := by
  apply Exists.intro
  apply tell_plain (N := 50) (n := 4) (hf := Tryd.func90) (hN := rfl) (hres := rfl) (hT := tellT) (hok := by rfl) (h4 := by decide) (hne := by decide) (hn := by decide) (hbody := rfl)
  · apply twhole_seq
    · apply tell_num (i := 0) (o := 0) (kd := .i32) tellT
      · kernel_rfl
      · kernel_rfl
      · exact kd_i32
      · kernel_rfl
      · kernel_rfl
      · rfl
      · rfl
      · decide
    · apply twhole_seq
      · apply tell_str (i := 1) (o := 1) (eb := 5) tellT
        · kernel_rfl
        · kernel_rfl
        · kernel_rfl
        · rfl
        · rfl
        · decide
      · apply twhole_seq
        · apply tell_num (i := 2) (o := 2) (kd := .i32) tellT
          · kernel_rfl
          · kernel_rfl
          · exact kd_i32
          · kernel_rfl
          · kernel_rfl
          · rfl
          · rfl
          · decide
        · apply twhole_seq
          · apply tell_leaf (i := 3) (o := 3) tellT (leaf_text tellT)
            · kernel_rfl
            · rfl
            · kernel_rfl
            · kernel_rfl
            · rfl
            · rfl
            · decide
          · exact twhole_tags tellT tagT rfl (by kernel_rfl) (by rfl) (by kernel_rfl) (by kernel_rfl) (by kernel_rfl) each_spec sorted_spec (clo_rule Tryd.func145 rfl rfl tagT rfl)
set_option maxRecDepth 100000 in
theorem tell_ShareAcknowledgeResponse : ∃ G, TellC Tryd.prog 42 sShareAcknowledgeResponse G := by
  obtain ⟨GShareAcknowledgeResponse_t89, hGShareAcknowledgeResponse_t89⟩ := tell_ShareAcknowledgeResponse_t89
  obtain ⟨GShareAcknowledgeResponse_t90, hGShareAcknowledgeResponse_t90⟩ := tell_ShareAcknowledgeResponse_t90
  apply Exists.intro
  apply tell_plain (N := 164) (n := 6) (hf := Tryd.func42) (hN := rfl) (hres := rfl) (hT := tellT) (hok := by rfl) (h4 := by decide) (hne := by decide) (hn := by decide) (hbody := rfl)
  · apply twhole_seq
    · apply tell_num (i := 1) (o := 1) (kd := .i32) tellT
      · kernel_rfl
      · kernel_rfl
      · exact kd_i32
      · kernel_rfl
      · kernel_rfl
      · rfl
      · rfl
      · decide
    · apply twhole_seq
      · apply tell_num (i := 2) (o := 2) (kd := .i16) tellT
        · kernel_rfl
        · kernel_rfl
        · exact kd_i16
        · kernel_rfl
        · kernel_rfl
        · rfl
        · rfl
        · decide
      · apply twhole_seq
        · apply tell_leaf (i := 3) (o := 3) tellT (leaf_text tellT)
          · kernel_rfl
          · rfl
          · kernel_rfl
          · kernel_rfl
          · rfl
          · rfl
          · decide
        · apply twhole_seq
          · apply tell_num (i := 4) (o := 4) (kd := .i32) tellT
            · kernel_rfl
            · kernel_rfl
            · exact kd_i32
            · kernel_rfl
            · kernel_rfl
            · rfl
            · rfl
            · decide
          · apply twhole_list (i := 5) (E := (structT GShareAcknowledgeResponse_t89))
            · apply nul_list (i := 5) (o := 5) tellT
              · kernel_rfl
              · kernel_rfl
              · kernel_rfl
              · kernel_rfl
              · kernel_rfl
              · rfl
              · rfl
              · decide
              · decide
            · apply loop_list (i := 5) (o := 5)
              · apply app0_call (es := 104) tellT
                · exact hGShareAcknowledgeResponse_t89
                · kernel_rfl
                · rfl
                · rfl
                · kernel_rfl
                · kernel_rfl
                · kernel_rfl
                · rfl
                · kernel_rfl
                · rfl
                · decide
                · decide
              · apply app1_call (es := 104) tellT
                · exact hGShareAcknowledgeResponse_t89
                · kernel_rfl
                · rfl
                · rfl
                · kernel_rfl
                · kernel_rfl
                · kernel_rfl
                · rfl
                · kernel_rfl
                · rfl
                · decide
                · decide
              · rfl
              · exact ⟨.bool false, by kernel_rfl, rfl⟩
              · kernel_rfl
              · kernel_rfl
              · kernel_rfl
              · kernel_rfl
              · kernel_rfl
              · rfl
              · rfl
              · rfl
            · apply twhole_list (i := 6) (E := (structT GShareAcknowledgeResponse_t90))
              · apply nul_list (i := 6) (o := 6) tellT
                · kernel_rfl
                · kernel_rfl
                · kernel_rfl
                · kernel_rfl
                · kernel_rfl
                · rfl
                · rfl
                · decide
                · decide
              · apply loop_list (i := 6) (o := 6)
                · apply app0_call (es := 108) tellT
                  · exact hGShareAcknowledgeResponse_t90
                  · kernel_rfl
                  · rfl
                  · rfl
                  · kernel_rfl
                  · kernel_rfl
                  · kernel_rfl
                  · rfl
                  · kernel_rfl
                  · rfl
                  · decide
                  · decide
                · apply app1_call (es := 108) tellT
                  · exact hGShareAcknowledgeResponse_t90
                  · kernel_rfl
                  · rfl
                  · rfl
                  · kernel_rfl
                  · kernel_rfl
                  · kernel_rfl
                  · rfl
                  · kernel_rfl
                  · rfl
                  · decide
                  · decide
                · rfl
                · exact ⟨.bool false, by kernel_rfl, rfl⟩
                · kernel_rfl
                · kernel_rfl
                · kernel_rfl
                · kernel_rfl
                · kernel_rfl
                · rfl
                · rfl
                · rfl
              · exact twhole_tags tellT tagT rfl (by kernel_rfl) (by rfl) (by kernel_rfl) (by kernel_rfl) (by kernel_rfl) each_spec sorted_spec (clo_rule Tryd.func92 rfl rfl tagT rfl)
theorem doors_ShareAcknowledgeResponse : ∃ ft v1 G, DoorC Tryd.prog 11 fl_ShareAcknowledgeResponse ft v1 G ∧ DoorC Tryd.prog 13 fl_ShareAcknowledgeResponse ft v1 G ∧ NsI ft v1 := by
  obtain ⟨ft, hr, hns⟩ := read_ShareAcknowledgeResponse
  obtain ⟨G, hG⟩ := tell_ShareAcknowledgeResponse
  refine ⟨ft, v_ShareAcknowledgeResponse, G, ?_, ?_, hns⟩
  · exact door_rule Tryd.func11 rfl rfl tellT rfl (by kernel_rfl) (by kernel_rfl) (by kernel_rfl) (by kernel_rfl) (by kernel_rfl) (by kernel_rfl) (eb := 5) (by kernel_rfl) (by kernel_rfl) new_ShareAcknowledgeResponse set_ShareAcknowledgeResponse (rf_rule Tryd.func41 rfl rfl rfl hr (by kernel_rfl)) hG (by decide)
  · exact door_rule Tryd.func13 rfl rfl tellT rfl (by kernel_rfl) (by kernel_rfl) (by kernel_rfl) (by kernel_rfl) (by kernel_rfl) (by kernel_rfl) (eb := 5) (by kernel_rfl) (by kernel_rfl) new_ShareAcknowledgeResponse set_ShareAcknowledgeResponse (rf_rule Tryd.func43 rfl rfl rfl hr (by kernel_rfl)) hG (by decide)
end Go.Proofs.YtidkekohcmejlaaDoor
