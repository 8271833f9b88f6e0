/-
  DeleteShareGroupOffsetsRequest: its doors.
-/
import Derived.Test.YtjjpiacdamibjaaDoorKRDeleteShareGroupOffsetsRequest
import Derived.Test.YtjjpiacdamibjaaDoorKLaw
set_option linter.unusedSimpArgs false
set_option linter.unusedVariables false
namespace Go.Proofs.YtjjpiacdamibjaaDoor
open Go Go.RowKit

theorem new_DeleteShareGroupOffsetsRequest : NewC Tryd.prog 14 sDeleteShareGroupOffsetsRequest v_DeleteShareGroupOffsetsRequest := by
  refine new_rule (z := .agg #[.int .i16 0, .string (str []), .slice none 0 0, .map none]) Tryd.func14 rfl rfl rfl (by kernel_rfl) (by decide) (fun w => ?_) d_sDeleteShareGroupOffsetsRequest (by kernel_rfl)
  exact zero_ok (lay := sDeleteShareGroupOffsetsRequest.lay) (tg := sDeleteShareGroupOffsetsRequest.tg) (z := from' #[.int .i16 0, .string (str []), .slice none 0 0, .map none] 0) (by repeat' (first | rfl | trivial | apply And.intro)) (by rfl) w _
theorem set_DeleteShareGroupOffsetsRequest : SetC Tryd.prog 16 sDeleteShareGroupOffsetsRequest :=
  set_rule Tryd.func16 rfl rfl rfl (by kernel_rfl) (by kernel_rfl) rfl rfl rfl (by decide)
set_option maxRecDepth 100000 in
theorem tell_DeleteShareGroupOffsetsRequest_t29 : ∃ G, TellC Tryd.prog 29 sDeleteShareGroupOffsetsRequest_1 G := by
  apply Exists.intro
  apply tell_plain (N := 24) (n := 1) (hf := Tryd.func29) (hN := rfl) (hres := rfl) (hT := tellT) (hok := by rfl) (h4 := by decide) (hne := by decide) (hn := by decide) (hbody := rfl)
  · apply twhole_seq
    · apply tell_str (i := 0) (o := 0) (eb := 5) tellT
      · kernel_rfl
      · kernel_rfl
      · kernel_rfl
      · rfl
      · rfl
      · decide
    · exact twhole_tags tellT tagT rfl (by kernel_rfl) (by rfl) (by kernel_rfl) (by kernel_rfl) (by kernel_rfl) each_spec sorted_spec (clo_rule Tryd.func47 rfl rfl tagT rfl)
set_option maxRecDepth 100000 in
theorem tell_DeleteShareGroupOffsetsRequest : ∃ G, TellC Tryd.prog 18 sDeleteShareGroupOffsetsRequest G := by
  obtain ⟨GDeleteShareGroupOffsetsRequest_t29, hGDeleteShareGroupOffsetsRequest_t29⟩ := tell_DeleteShareGroupOffsetsRequest_t29
  apply Exists.intro
  apply tell_plain (N := 81) (n := 2) (hf := Tryd.func18) (hN := rfl) (hres := rfl) (hT := tellT) (hok := by rfl) (h4 := by decide) (hne := by decide) (hn := by decide) (hbody := rfl)
  · apply twhole_seq
    · apply tell_str (i := 1) (o := 1) (eb := 5) tellT
      · kernel_rfl
      · kernel_rfl
      · kernel_rfl
      · rfl
      · rfl
      · decide
    · apply twhole_list (i := 2) (E := (structT GDeleteShareGroupOffsetsRequest_t29))
      · apply nul_list (i := 2) (o := 2) tellT
        · kernel_rfl
        · kernel_rfl
        · kernel_rfl
        · kernel_rfl
        · kernel_rfl
        · rfl
        · rfl
        · decide
        · decide
      · apply loop_list (i := 2) (o := 2)
        · apply app0_call (es := 65) tellT
          · exact hGDeleteShareGroupOffsetsRequest_t29
          · kernel_rfl
          · rfl
          · rfl
          · kernel_rfl
          · kernel_rfl
          · kernel_rfl
          · rfl
          · kernel_rfl
          · rfl
          · decide
          · decide
        · apply app1_call (es := 65) tellT
          · exact hGDeleteShareGroupOffsetsRequest_t29
          · kernel_rfl
          · rfl
          · rfl
          · kernel_rfl
          · kernel_rfl
          · kernel_rfl
          · rfl
          · kernel_rfl
          · rfl
          · decide
          · decide
        · rfl
        · exact ⟨.bool false, by kernel_rfl, rfl⟩
        · kernel_rfl
        · kernel_rfl
        · kernel_rfl
        · kernel_rfl
        · kernel_rfl
        · rfl
        · rfl
        · rfl
      · exact twhole_tags tellT tagT rfl (by kernel_rfl) (by rfl) (by kernel_rfl) (by kernel_rfl) (by kernel_rfl) each_spec sorted_spec (clo_rule Tryd.func31 rfl rfl tagT rfl)
theorem doors_DeleteShareGroupOffsetsRequest : ∃ ft v1 G, DoorC Tryd.prog 6 fl_DeleteShareGroupOffsetsRequest ft v1 G ∧ DoorC Tryd.prog 8 fl_DeleteShareGroupOffsetsRequest ft v1 G ∧ NsI ft v1 := by
  obtain ⟨ft, hr, hns⟩ := read_DeleteShareGroupOffsetsRequest
  obtain ⟨G, hG⟩ := tell_DeleteShareGroupOffsetsRequest
  refine ⟨ft, v_DeleteShareGroupOffsetsRequest, G, ?_, ?_, hns⟩
  · exact door_rule Tryd.func6 rfl rfl tellT rfl (by kernel_rfl) (by kernel_rfl) (by kernel_rfl) (by kernel_rfl) (by kernel_rfl) (by kernel_rfl) (eb := 5) (by kernel_rfl) (by kernel_rfl) new_DeleteShareGroupOffsetsRequest set_DeleteShareGroupOffsetsRequest (rf_rule Tryd.func17 rfl rfl rfl hr (by kernel_rfl)) hG (by decide)
  · exact door_rule Tryd.func8 rfl rfl tellT rfl (by kernel_rfl) (by kernel_rfl) (by kernel_rfl) (by kernel_rfl) (by kernel_rfl) (by kernel_rfl) (eb := 5) (by kernel_rfl) (by kernel_rfl) new_DeleteShareGroupOffsetsRequest set_DeleteShareGroupOffsetsRequest (rf_rule Tryd.func19 rfl rfl rfl hr (by kernel_rfl)) hG (by decide)
end Go.Proofs.YtjjpiacdamibjaaDoor
