/-
  InitProducerIDRequest: its doors.
-/
import Derived.Test.YtidkekohcmejlaaDoorKRInitProducerIDRequest
import Derived.Test.YtidkekohcmejlaaDoorKLaw
set_option linter.unusedSimpArgs false
set_option linter.unusedVariables false
namespace Go.Proofs.YtidkekohcmejlaaDoor
open Go Go.RowKit

theorem new_InitProducerIDRequest : NewC Tryd.prog 51 sInitProducerIDRequest v_InitProducerIDRequest := by
  refine new_rule (z := .agg #[.int .i16 0, .pointer none, .int .i32 0, .int .i64 0, .int .i16 0, .map none]) Tryd.func51 rfl rfl rfl (by kernel_rfl) (by decide) (fun w => ?_) d_sInitProducerIDRequest (by kernel_rfl)
  exact zero_ok (lay := sInitProducerIDRequest.lay) (tg := sInitProducerIDRequest.tg) (z := from' #[.int .i16 0, .pointer none, .int .i32 0, .int .i64 0, .int .i16 0, .map none] 0) (by repeat' (first | rfl | trivial | apply And.intro)) (by rfl) w _
theorem set_InitProducerIDRequest : SetC Tryd.prog 53 sInitProducerIDRequest :=
  set_rule Tryd.func53 rfl rfl rfl (by kernel_rfl) (by kernel_rfl) rfl rfl rfl (by decide)
set_option maxRecDepth 100000 in
theorem tell_InitProducerIDRequest : ∃ G, TellC Tryd.prog 55 sInitProducerIDRequest G := by
  apply Exists.intro
  apply tell_plain (N := 49) (n := 4) (hf := Tryd.func55) (hN := rfl) (hres := rfl) (hT := tellT) (hok := by rfl) (h4 := by decide) (hne := by decide) (hn := by decide) (hbody := rfl)
  · apply twhole_seq
    · apply tell_leaf (i := 1) (o := 1) tellT (leaf_text tellT)
      · kernel_rfl
      · rfl
      · kernel_rfl
      · kernel_rfl
      · rfl
      · rfl
      · decide
    · apply twhole_seq
      · apply tell_num (i := 2) (o := 2) (kd := .i32) tellT
        · kernel_rfl
        · kernel_rfl
        · exact kd_i32
        · kernel_rfl
        · kernel_rfl
        · rfl
        · rfl
        · decide
      · apply twhole_seq
        · apply tell_num64 (i := 3) (o := 3) tellT
          · kernel_rfl
          · kernel_rfl
          · rfl
          · rfl
          · decide
        · apply twhole_seq
          · apply tell_num (i := 4) (o := 4) (kd := .i16) tellT
            · kernel_rfl
            · kernel_rfl
            · exact kd_i16
            · kernel_rfl
            · kernel_rfl
            · rfl
            · rfl
            · decide
          · exact twhole_tags tellT tagT rfl (by kernel_rfl) (by rfl) (by kernel_rfl) (by kernel_rfl) (by kernel_rfl) each_spec sorted_spec (clo_rule Tryd.func100 rfl rfl tagT rfl)
theorem doors_InitProducerIDRequest : ∃ ft v1 G, DoorC Tryd.prog 20 fl_InitProducerIDRequest ft v1 G ∧ DoorC Tryd.prog 21 fl_InitProducerIDRequest ft v1 G ∧ NsI ft v1 := by
  obtain ⟨ft, hr, hns⟩ := read_InitProducerIDRequest
  obtain ⟨G, hG⟩ := tell_InitProducerIDRequest
  refine ⟨ft, v_InitProducerIDRequest, G, ?_, ?_, hns⟩
  · exact door_rule Tryd.func20 rfl rfl tellT rfl (by kernel_rfl) (by kernel_rfl) (by kernel_rfl) (by kernel_rfl) (by kernel_rfl) (by kernel_rfl) (eb := 5) (by kernel_rfl) (by kernel_rfl) new_InitProducerIDRequest set_InitProducerIDRequest (rf_rule Tryd.func54 rfl rfl rfl hr (by kernel_rfl)) hG (by decide)
  · exact door_rule Tryd.func21 rfl rfl tellT rfl (by kernel_rfl) (by kernel_rfl) (by kernel_rfl) (by kernel_rfl) (by kernel_rfl) (by kernel_rfl) (eb := 5) (by kernel_rfl) (by kernel_rfl) new_InitProducerIDRequest set_InitProducerIDRequest (rf_rule Tryd.func56 rfl rfl rfl hr (by kernel_rfl)) hG (by decide)
end Go.Proofs.YtidkekohcmejlaaDoor
