/-
  DeleteACLsRequest: its doors.
-/
import Derived.Test.YtadfbhmpehnkeaaDoorKRDeleteACLsRequest
import Derived.Test.YtadfbhmpehnkeaaDoorKLaw
set_option linter.unusedSimpArgs false
set_option linter.unusedVariables false
namespace Go.Proofs.YtadfbhmpehnkeaaDoor
open Go Go.RowKit

theorem new_DeleteACLsRequest : NewC Tryd.prog 77 sDeleteACLsRequest v_DeleteACLsRequest := by
  refine new_rule (z := .agg #[.int .i16 0, .slice none 0 0, .map none]) Tryd.func77 rfl rfl rfl (by kernel_rfl) (by decide) (fun w => ?_) d_sDeleteACLsRequest (by kernel_rfl)
  exact zero_ok (lay := sDeleteACLsRequest.lay) (tg := sDeleteACLsRequest.tg) (z := from' #[.int .i16 0, .slice none 0 0, .map none] 0) (by repeat' (first | rfl | trivial | apply And.intro)) (by rfl) w _
theorem set_DeleteACLsRequest : SetC Tryd.prog 79 sDeleteACLsRequest :=
  set_rule Tryd.func79 rfl rfl rfl (by kernel_rfl) (by kernel_rfl) rfl rfl rfl (by decide)
set_option maxRecDepth 100000 in
theorem tell_DeleteACLsRequest_t132 : ∃ G, TellC Tryd.prog 132 sDeleteACLsRequest_1 G := by
  apply Exists.intro
  apply tell_plain (N := 75) (n := 7) (hf := Tryd.func132) (hN := rfl) (hres := rfl) (hT := tellT) (hok := by rfl) (h4 := by decide) (hne := by decide) (hn := by decide) (hbody := rfl)
  · apply twhole_seq
    · apply tell_num (i := 0) (o := 0) (kd := .i8) tellT
      · kernel_rfl
      · kernel_rfl
      · exact kd_i8
      · kernel_rfl
      · kernel_rfl
      · rfl
      · rfl
      · decide
    · apply twhole_seq
      · apply tell_leaf (i := 1) (o := 1) tellT (leaf_text tellT)
        · kernel_rfl
        · rfl
        · kernel_rfl
        · kernel_rfl
        · rfl
        · rfl
        · decide
      · apply twhole_seq
        · apply tell_num (i := 2) (o := 2) (kd := .i8) tellT
          · kernel_rfl
          · kernel_rfl
          · exact kd_i8
          · kernel_rfl
          · kernel_rfl
          · rfl
          · rfl
          · decide
        · apply twhole_seq
          · apply tell_leaf (i := 3) (o := 3) tellT (leaf_text tellT)
            · kernel_rfl
            · rfl
            · kernel_rfl
            · kernel_rfl
            · rfl
            · rfl
            · decide
          · apply twhole_seq
            · apply tell_leaf (i := 4) (o := 4) tellT (leaf_text tellT)
              · kernel_rfl
              · rfl
              · kernel_rfl
              · kernel_rfl
              · rfl
              · rfl
              · decide
            · apply twhole_seq
              · apply tell_num (i := 5) (o := 5) (kd := .i8) tellT
                · kernel_rfl
                · kernel_rfl
                · exact kd_i8
                · kernel_rfl
                · kernel_rfl
                · rfl
                · rfl
                · decide
              · apply twhole_seq
                · apply tell_num (i := 6) (o := 6) (kd := .i8) tellT
                  · kernel_rfl
                  · kernel_rfl
                  · exact kd_i8
                  · kernel_rfl
                  · kernel_rfl
                  · rfl
                  · rfl
                  · decide
                · exact twhole_tags tellT tagT rfl (by kernel_rfl) (by rfl) (by kernel_rfl) (by kernel_rfl) (by kernel_rfl) each_spec sorted_spec (clo_rule Tryd.func187 rfl rfl tagT rfl)
set_option maxRecDepth 100000 in
theorem tell_DeleteACLsRequest : ∃ G, TellC Tryd.prog 81 sDeleteACLsRequest G := by
  obtain ⟨GDeleteACLsRequest_t132, hGDeleteACLsRequest_t132⟩ := tell_DeleteACLsRequest_t132
  apply Exists.intro
  apply tell_plain (N := 72) (n := 1) (hf := Tryd.func81) (hN := rfl) (hres := rfl) (hT := tellT) (hok := by rfl) (h4 := by decide) (hne := by decide) (hn := by decide) (hbody := rfl)
  · apply twhole_list (i := 1) (E := (structT GDeleteACLsRequest_t132))
    · apply nul_list (i := 1) (o := 1) tellT
      · kernel_rfl
      · kernel_rfl
      · kernel_rfl
      · kernel_rfl
      · kernel_rfl
      · rfl
      · rfl
      · decide
      · decide
    · apply loop_list (i := 1) (o := 1)
      · apply app0_call (es := 137) tellT
        · exact hGDeleteACLsRequest_t132
        · kernel_rfl
        · rfl
        · rfl
        · kernel_rfl
        · kernel_rfl
        · kernel_rfl
        · rfl
        · kernel_rfl
        · rfl
        · decide
        · decide
      · apply app1_call (es := 137) tellT
        · exact hGDeleteACLsRequest_t132
        · kernel_rfl
        · rfl
        · rfl
        · kernel_rfl
        · kernel_rfl
        · kernel_rfl
        · rfl
        · kernel_rfl
        · rfl
        · decide
        · decide
      · rfl
      · exact ⟨.bool false, by kernel_rfl, rfl⟩
      · kernel_rfl
      · kernel_rfl
      · kernel_rfl
      · kernel_rfl
      · kernel_rfl
      · rfl
      · rfl
      · rfl
    · exact twhole_tags tellT tagT rfl (by kernel_rfl) (by rfl) (by kernel_rfl) (by kernel_rfl) (by kernel_rfl) each_spec sorted_spec (clo_rule Tryd.func133 rfl rfl tagT rfl)
theorem doors_DeleteACLsRequest : ∃ ft v1 G, DoorC Tryd.prog 32 fl_DeleteACLsRequest ft v1 G ∧ DoorC Tryd.prog 33 fl_DeleteACLsRequest ft v1 G ∧ NsI ft v1 := by
  obtain ⟨ft, hr, hns⟩ := read_DeleteACLsRequest
  obtain ⟨G, hG⟩ := tell_DeleteACLsRequest
  refine ⟨ft, v_DeleteACLsRequest, G, ?_, ?_, hns⟩
  · exact door_rule Tryd.func32 rfl rfl tellT rfl (by kernel_rfl) (by kernel_rfl) (by kernel_rfl) (by kernel_rfl) (by kernel_rfl) (by kernel_rfl) (eb := 5) (by kernel_rfl) (by kernel_rfl) new_DeleteACLsRequest set_DeleteACLsRequest (rf_rule Tryd.func80 rfl rfl rfl hr (by kernel_rfl)) hG (by decide)
  · exact door_rule Tryd.func33 rfl rfl tellT rfl (by kernel_rfl) (by kernel_rfl) (by kernel_rfl) (by kernel_rfl) (by kernel_rfl) (by kernel_rfl) (eb := 5) (by kernel_rfl) (by kernel_rfl) new_DeleteACLsRequest set_DeleteACLsRequest (rf_rule Tryd.func82 rfl rfl rfl hr (by kernel_rfl)) hG (by decide)
end Go.Proofs.YtadfbhmpehnkeaaDoor
