/-
  ControllerRegistrationResponse: its doors.
-/
import Derived.Test.YtboohnhpcjagnaaDoorKRControllerRegistrationResponse
import Derived.Test.YtboohnhpcjagnaaDoorKLaw
set_option linter.unusedSimpArgs false
set_option linter.unusedVariables false
namespace Go.Proofs.YtboohnhpcjagnaaDoor
open Go Go.RowKit

theorem new_ControllerRegistrationResponse : NewC Tryd.prog 60 sControllerRegistrationResponse v_ControllerRegistrationResponse := by
  refine new_rule (z := .agg #[.int .i16 0, .int .i32 0, .int .i16 0, .pointer none, .map none]) Tryd.func60 rfl rfl rfl (by kernel_rfl) (by decide) (fun w => ?_) d_sControllerRegistrationResponse (by kernel_rfl)
  exact zero_ok (lay := sControllerRegistrationResponse.lay) (tg := sControllerRegistrationResponse.tg) (z := from' #[.int .i16 0, .int .i32 0, .int .i16 0, .pointer none, .map none] 0) (by repeat' (first | rfl | trivial | apply And.intro)) (by rfl) w _
theorem set_ControllerRegistrationResponse : SetC Tryd.prog 62 sControllerRegistrationResponse :=
  set_rule Tryd.func62 rfl rfl rfl (by kernel_rfl) (by kernel_rfl) rfl rfl rfl (by decide)
theorem tell_ControllerRegistrationResponse : ∃ G, TellC Tryd.prog 64 sControllerRegistrationResponse G := by
  apply Exists.intro
  apply tell_plain (N := 41) (n := 3) (hf := Tryd.func64) (hN := rfl) (hres := rfl) (hT := tellT) (hok := by rfl) (h4 := by decide) (hne := by decide) (hn := by decide) (hbody := rfl)
  · apply twhole_seq
    · apply tell_num (i := 1) (o := 1) (kd := .i32) tellT
      · kernel_rfl
      · kernel_rfl
      · exact kd_i32
      · kernel_rfl
      · kernel_rfl
      · rfl
      · rfl
      · decide
    · apply twhole_seq
      · apply tell_num (i := 2) (o := 2) (kd := .i16) tellT
        · kernel_rfl
        · kernel_rfl
        · exact kd_i16
        · kernel_rfl
        · kernel_rfl
        · rfl
        · rfl
        · decide
      · apply twhole_seq
        · apply tell_leaf (i := 3) (o := 3) tellT (leaf_text tellT)
          · kernel_rfl
          · rfl
          · kernel_rfl
          · kernel_rfl
          · rfl
          · rfl
          · decide
        · exact twhole_tags tellT tagT rfl (by kernel_rfl) (by rfl) (by kernel_rfl) (by kernel_rfl) (by kernel_rfl) each_spec sorted_spec (clo_rule Tryd.func118 rfl rfl tagT rfl)
        · intro v ts; simp
      · intro v ts; simp
    · intro v ts; simp
  · intro v ts; simp
theorem doors_ControllerRegistrationResponse : ∃ ft v1 G, DoorC Tryd.prog 24 fl_ControllerRegistrationResponse ft v1 G ∧ DoorC Tryd.prog 25 fl_ControllerRegistrationResponse ft v1 G ∧ NsI ft v1 := by
  obtain ⟨ft, hr, hns⟩ := read_ControllerRegistrationResponse
  obtain ⟨G, hG⟩ := tell_ControllerRegistrationResponse
  refine ⟨ft, v_ControllerRegistrationResponse, G, ?_, ?_, hns⟩
  · exact door_rule Tryd.func24 rfl rfl tellT rfl (by kernel_rfl) (by kernel_rfl) (by kernel_rfl) (by kernel_rfl) (by kernel_rfl) (by kernel_rfl) (eb := 5) (by kernel_rfl) (by kernel_rfl) new_ControllerRegistrationResponse set_ControllerRegistrationResponse (rf_rule Tryd.func63 rfl rfl rfl hr (by kernel_rfl)) hG (by decide)
  · exact door_rule Tryd.func25 rfl rfl tellT rfl (by kernel_rfl) (by kernel_rfl) (by kernel_rfl) (by kernel_rfl) (by kernel_rfl) (by kernel_rfl) (eb := 5) (by kernel_rfl) (by kernel_rfl) new_ControllerRegistrationResponse set_ControllerRegistrationResponse (rf_rule Tryd.func65 rfl rfl rfl hr (by kernel_rfl)) hG (by decide)
end Go.Proofs.YtboohnhpcjagnaaDoor
