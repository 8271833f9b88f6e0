/-
  MetadataRequest: its doors.
-/
import Derived.Test.YtadfbhmpehnkeaaDoorKRMetadataRequest
import Derived.Test.YtadfbhmpehnkeaaDoorKLaw
set_option linter.unusedSimpArgs false
set_option linter.unusedVariables false
namespace Go.Proofs.YtadfbhmpehnkeaaDoor
open Go Go.RowKit

theorem new_MetadataRequest : NewC Tryd.prog 71 sMetadataRequest v_MetadataRequest := by
  refine new_rule (z := .agg #[.int .i16 0, .slice none 0 0, .bool false, .bool false, .bool false, .map none]) Tryd.func71 rfl rfl rfl (by kernel_rfl) (by decide) (fun w => ?_) d_sMetadataRequest (by kernel_rfl)
  exact zero_ok (lay := sMetadataRequest.lay) (tg := sMetadataRequest.tg) (z := from' #[.int .i16 0, .slice none 0 0, .bool false, .bool false, .bool false, .map none] 0) (by repeat' (first | rfl | trivial | apply And.intro)) (by rfl) w _
theorem set_MetadataRequest : SetC Tryd.prog 73 sMetadataRequest :=
  set_rule Tryd.func73 rfl rfl rfl (by kernel_rfl) (by kernel_rfl) rfl rfl rfl (by decide)
set_option maxRecDepth 100000 in
theorem tell_MetadataRequest_t127 : ∃ G, TellC Tryd.prog 127 sMetadataRequest_1 G := by
  apply Exists.intro
  apply tell_plain (N := 32) (n := 2) (hf := Tryd.func127) (hN := rfl) (hres := rfl) (hT := tellT) (hok := by rfl) (h4 := by decide) (hne := by decide) (hn := by decide) (hbody := rfl)
  · apply twhole_seq
    · apply tell_uuid (i := 0) (o := 0) (eb := 5) tellT
      · kernel_rfl
      · kernel_rfl
      · kernel_rfl
      · rfl
      · rfl
      · decide
    · apply twhole_seq
      · apply tell_leaf (i := 1) (o := 16) tellT (leaf_text tellT)
        · kernel_rfl
        · rfl
        · kernel_rfl
        · kernel_rfl
        · rfl
        · rfl
        · decide
      · exact twhole_tags tellT tagT rfl (by kernel_rfl) (by rfl) (by kernel_rfl) (by kernel_rfl) (by kernel_rfl) each_spec sorted_spec (clo_rule Tryd.func184 rfl rfl tagT rfl)
set_option maxRecDepth 100000 in
theorem tell_MetadataRequest : ∃ G, TellC Tryd.prog 75 sMetadataRequest G := by
  obtain ⟨GMetadataRequest_t127, hGMetadataRequest_t127⟩ := tell_MetadataRequest_t127
  apply Exists.intro
  apply tell_plain (N := 96) (n := 4) (hf := Tryd.func75) (hN := rfl) (hres := rfl) (hT := tellT) (hok := by rfl) (h4 := by decide) (hne := by decide) (hn := by decide) (hbody := rfl)
  · apply twhole_list (i := 1) (E := (structT GMetadataRequest_t127))
    · apply nul_list (i := 1) (o := 1) tellT
      · kernel_rfl
      · kernel_rfl
      · kernel_rfl
      · kernel_rfl
      · kernel_rfl
      · rfl
      · rfl
      · decide
      · decide
    · apply loop_list (i := 1) (o := 1)
      · apply app0_call (es := 124) tellT
        · exact hGMetadataRequest_t127
        · kernel_rfl
        · rfl
        · rfl
        · kernel_rfl
        · kernel_rfl
        · kernel_rfl
        · rfl
        · kernel_rfl
        · rfl
        · decide
        · decide
      · apply app1_call (es := 124) tellT
        · exact hGMetadataRequest_t127
        · kernel_rfl
        · rfl
        · rfl
        · kernel_rfl
        · kernel_rfl
        · kernel_rfl
        · rfl
        · kernel_rfl
        · rfl
        · decide
        · decide
      · rfl
      · exact ⟨.bool false, by kernel_rfl, rfl⟩
      · kernel_rfl
      · kernel_rfl
      · kernel_rfl
      · kernel_rfl
      · kernel_rfl
      · rfl
      · rfl
      · rfl
    · apply twhole_seq
      · apply tell_leaf (i := 2) (o := 2) tellT (leaf_bool tellT)
        · kernel_rfl
        · rfl
        · kernel_rfl
        · kernel_rfl
        · rfl
        · rfl
        · decide
      · apply twhole_seq
        · apply tell_leaf (i := 3) (o := 3) tellT (leaf_bool tellT)
          · kernel_rfl
          · rfl
          · kernel_rfl
          · kernel_rfl
          · rfl
          · rfl
          · decide
        · apply twhole_seq
          · apply tell_leaf (i := 4) (o := 4) tellT (leaf_bool tellT)
            · kernel_rfl
            · rfl
            · kernel_rfl
            · kernel_rfl
            · rfl
            · rfl
            · decide
          · exact twhole_tags tellT tagT rfl (by kernel_rfl) (by rfl) (by kernel_rfl) (by kernel_rfl) (by kernel_rfl) each_spec sorted_spec (clo_rule Tryd.func129 rfl rfl tagT rfl)
theorem doors_MetadataRequest : ∃ ft v1 G, DoorC Tryd.prog 29 fl_MetadataRequest ft v1 G ∧ DoorC Tryd.prog 30 fl_MetadataRequest ft v1 G ∧ NsI ft v1 := by
  obtain ⟨ft, hr, hns⟩ := read_MetadataRequest
  obtain ⟨G, hG⟩ := tell_MetadataRequest
  refine ⟨ft, v_MetadataRequest, G, ?_, ?_, hns⟩
  · exact door_rule Tryd.func29 rfl rfl tellT rfl (by kernel_rfl) (by kernel_rfl) (by kernel_rfl) (by kernel_rfl) (by kernel_rfl) (by kernel_rfl) (eb := 5) (by kernel_rfl) (by kernel_rfl) new_MetadataRequest set_MetadataRequest (rf_rule Tryd.func74 rfl rfl rfl hr (by kernel_rfl)) hG (by decide)
  · exact door_rule Tryd.func30 rfl rfl tellT rfl (by kernel_rfl) (by kernel_rfl) (by kernel_rfl) (by kernel_rfl) (by kernel_rfl) (by kernel_rfl) (eb := 5) (by kernel_rfl) (by kernel_rfl) new_MetadataRequest set_MetadataRequest (rf_rule Tryd.func76 rfl rfl rfl hr (by kernel_rfl)) hG (by decide)
end Go.Proofs.YtadfbhmpehnkeaaDoor
