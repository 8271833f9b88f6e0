/-
  EndTxnRequest: its doors.
-/
import Derived.Test.YtboohnhpcjagnaaDoorKREndTxnRequest
import Derived.Test.YtboohnhpcjagnaaDoorKLaw
set_option linter.unusedSimpArgs false
set_option linter.unusedVariables false
namespace Go.Proofs.YtboohnhpcjagnaaDoor
open Go Go.RowKit

theorem new_EndTxnRequest : NewC Tryd.prog 66 sEndTxnRequest v_EndTxnRequest := by
  refine new_rule (z := .agg #[.int .i16 0, .string (str []), .int .i64 0, .int .i16 0, .bool false, .map none]) Tryd.func66 rfl rfl rfl (by kernel_rfl) (by decide) (fun w => ?_) d_sEndTxnRequest (by kernel_rfl)
  exact zero_ok (lay := sEndTxnRequest.lay) (tg := sEndTxnRequest.tg) (z := from' #[.int .i16 0, .string (str []), .int .i64 0, .int .i16 0, .bool false, .map none] 0) (by repeat' (first | rfl | trivial | apply And.intro)) (by rfl) w _
theorem set_EndTxnRequest : SetC Tryd.prog 68 sEndTxnRequest :=
  set_rule Tryd.func68 rfl rfl rfl (by kernel_rfl) (by kernel_rfl) rfl rfl rfl (by decide)
theorem tell_EndTxnRequest : ∃ G, TellC Tryd.prog 70 sEndTxnRequest G := by
  apply Exists.intro
  apply tell_plain (N := 49) (n := 4) (hf := Tryd.func70) (hN := rfl) (hres := rfl) (hT := tellT) (hok := by rfl) (h4 := by decide) (hne := by decide) (hn := by decide) (hbody := rfl)
  · apply twhole_seq
    · apply tell_str (i := 1) (o := 1) (eb := 5) tellT
      · kernel_rfl
      · kernel_rfl
      · kernel_rfl
      · rfl
      · rfl
      · decide
    · apply twhole_seq
      · apply tell_num64 (i := 2) (o := 2) tellT
        · kernel_rfl
        · kernel_rfl
        · rfl
        · rfl
        · decide
      · apply twhole_seq
        · apply tell_num (i := 3) (o := 3) (kd := .i16) tellT
          · kernel_rfl
          · kernel_rfl
          · exact kd_i16
          · kernel_rfl
          · kernel_rfl
          · rfl
          · rfl
          · decide
        · apply twhole_seq
          · apply tell_leaf (i := 4) (o := 4) tellT (leaf_bool tellT)
            · kernel_rfl
            · rfl
            · kernel_rfl
            · kernel_rfl
            · rfl
            · rfl
            · decide
          · exact twhole_tags tellT tagT rfl (by kernel_rfl) (by rfl) (by kernel_rfl) (by kernel_rfl) (by kernel_rfl) each_spec sorted_spec (clo_rule Tryd.func123 rfl rfl tagT rfl)
          · intro v ts; simp
        · intro v ts; simp
      · intro v ts; simp
    · intro v ts; simp
  · intro v ts; simp
theorem doors_EndTxnRequest : ∃ ft v1 G, DoorC Tryd.prog 27 fl_EndTxnRequest ft v1 G ∧ DoorC Tryd.prog 28 fl_EndTxnRequest ft v1 G ∧ NsI ft v1 := by
  obtain ⟨ft, hr, hns⟩ := read_EndTxnRequest
  obtain ⟨G, hG⟩ := tell_EndTxnRequest
  refine ⟨ft, v_EndTxnRequest, G, ?_, ?_, hns⟩
  · exact door_rule Tryd.func27 rfl rfl tellT rfl (by kernel_rfl) (by kernel_rfl) (by kernel_rfl) (by kernel_rfl) (by kernel_rfl) (by kernel_rfl) (eb := 5) (by kernel_rfl) (by kernel_rfl) new_EndTxnRequest set_EndTxnRequest (rf_rule Tryd.func69 rfl rfl rfl hr (by kernel_rfl)) hG (by decide)
  · exact door_rule Tryd.func28 rfl rfl tellT rfl (by kernel_rfl) (by kernel_rfl) (by kernel_rfl) (by kernel_rfl) (by kernel_rfl) (by kernel_rfl) (eb := 5) (by kernel_rfl) (by kernel_rfl) new_EndTxnRequest set_EndTxnRequest (rf_rule Tryd.func71 rfl rfl rfl hr (by kernel_rfl)) hG (by decide)
end Go.Proofs.YtboohnhpcjagnaaDoor
