/-
  AddPartitionsToTxnRequest: its doors.
-/
import Derived.Test.YtadfbhmpehnkeaaDoorKRAddPartitionsToTxnRequest
import Derived.Test.YtadfbhmpehnkeaaDoorKLaw
set_option linter.unusedSimpArgs false
set_option linter.unusedVariables false
namespace Go.Proofs.YtadfbhmpehnkeaaDoor
open Go Go.RowKit

theorem new_AddPartitionsToTxnRequest : NewC Tryd.prog 95 sAddPartitionsToTxnRequest v_AddPartitionsToTxnRequest := by
  refine new_rule (z := .agg #[.int .i16 0, .string (str []), .int .i64 0, .int .i16 0, .slice none 0 0, .slice none 0 0, .map none]) Tryd.func95 rfl rfl rfl (by kernel_rfl) (by decide) (fun w => ?_) d_sAddPartitionsToTxnRequest (by kernel_rfl)
  exact zero_ok (lay := sAddPartitionsToTxnRequest.lay) (tg := sAddPartitionsToTxnRequest.tg) (z := from' #[.int .i16 0, .string (str []), .int .i64 0, .int .i16 0, .slice none 0 0, .slice none 0 0, .map none] 0) (by repeat' (first | rfl | trivial | apply And.intro)) (by rfl) w _
theorem set_AddPartitionsToTxnRequest : SetC Tryd.prog 97 sAddPartitionsToTxnRequest :=
  set_rule Tryd.func97 rfl rfl rfl (by kernel_rfl) (by kernel_rfl) rfl rfl rfl (by decide)
set_option maxRecDepth 100000 in
theorem tell_AddPartitionsToTxnRequest_t145 : ∃ G, TellC Tryd.prog 145 sAddPartitionsToTxnRequest_1 G := by
  apply Exists.intro
  apply tell_plain (N := 85) (n := 2) (hf := Tryd.func145) (hN := rfl) (hres := rfl) (hT := tellT) (hok := by rfl) (h4 := by decide) (hne := by decide) (hn := by decide) (hbody := rfl)
  · apply twhole_seq
    · apply tell_str (i := 0) (o := 0) (eb := 5) tellT
      · kernel_rfl
      · kernel_rfl
      · kernel_rfl
      · rfl
      · rfl
      · decide
    · apply twhole_list (i := 1) (E := id)
      · apply nul_list (i := 1) (o := 1) tellT
        · kernel_rfl
        · kernel_rfl
        · kernel_rfl
        · kernel_rfl
        · kernel_rfl
        · rfl
        · rfl
        · decide
        · decide
      · apply loop_list (i := 1) (o := 1)
        · apply app0_num (kd := .i32) tellT
          · kernel_rfl
          · kernel_rfl
          · exact kd_i32
          · kernel_rfl
          · kernel_rfl
          · kernel_rfl
          · kernel_rfl
          · rfl
          · kernel_rfl
          · rfl
          · decide
          · decide
        · apply app1_num (kd := .i32) tellT
          · kernel_rfl
          · kernel_rfl
          · exact kd_i32
          · kernel_rfl
          · kernel_rfl
          · kernel_rfl
          · kernel_rfl
          · rfl
          · kernel_rfl
          · rfl
          · decide
          · decide
        · rfl
        · exact ⟨.bool false, by kernel_rfl, rfl⟩
        · kernel_rfl
        · kernel_rfl
        · kernel_rfl
        · kernel_rfl
        · kernel_rfl
        · rfl
        · rfl
        · rfl
      · exact twhole_tags tellT tagT rfl (by kernel_rfl) (by rfl) (by kernel_rfl) (by kernel_rfl) (by kernel_rfl) each_spec sorted_spec (clo_rule Tryd.func199 rfl rfl tagT rfl)
set_option maxRecDepth 100000 in
theorem tell_AddPartitionsToTxnRequest_t200 : ∃ G, TellC Tryd.prog 200 sAddPartitionsToTxnRequest_3 G := by
  apply Exists.intro
  apply tell_plain (N := 85) (n := 2) (hf := Tryd.func200) (hN := rfl) (hres := rfl) (hT := tellT) (hok := by rfl) (h4 := by decide) (hne := by decide) (hn := by decide) (hbody := rfl)
  · apply twhole_seq
    · apply tell_str (i := 0) (o := 0) (eb := 5) tellT
      · kernel_rfl
      · kernel_rfl
      · kernel_rfl
      · rfl
      · rfl
      · decide
    · apply twhole_list (i := 1) (E := id)
      · apply nul_list (i := 1) (o := 1) tellT
        · kernel_rfl
        · kernel_rfl
        · kernel_rfl
        · kernel_rfl
        · kernel_rfl
        · rfl
        · rfl
        · decide
        · decide
      · apply loop_list (i := 1) (o := 1)
        · apply app0_num (kd := .i32) tellT
          · kernel_rfl
          · kernel_rfl
          · exact kd_i32
          · kernel_rfl
          · kernel_rfl
          · kernel_rfl
          · kernel_rfl
          · rfl
          · kernel_rfl
          · rfl
          · decide
          · decide
        · apply app1_num (kd := .i32) tellT
          · kernel_rfl
          · kernel_rfl
          · exact kd_i32
          · kernel_rfl
          · kernel_rfl
          · kernel_rfl
          · kernel_rfl
          · rfl
          · kernel_rfl
          · rfl
          · decide
          · decide
        · rfl
        · exact ⟨.bool false, by kernel_rfl, rfl⟩
        · kernel_rfl
        · kernel_rfl
        · kernel_rfl
        · kernel_rfl
        · kernel_rfl
        · rfl
        · rfl
        · rfl
      · exact twhole_tags tellT tagT rfl (by kernel_rfl) (by rfl) (by kernel_rfl) (by kernel_rfl) (by kernel_rfl) each_spec sorted_spec (clo_rule Tryd.func220 rfl rfl tagT rfl)
set_option maxRecDepth 100000 in
theorem tell_AddPartitionsToTxnRequest_t146 : ∃ G, TellC Tryd.prog 146 sAddPartitionsToTxnRequest_2 G := by
  obtain ⟨GAddPartitionsToTxnRequest_t200, hGAddPartitionsToTxnRequest_t200⟩ := tell_AddPartitionsToTxnRequest_t200
  apply Exists.intro
  apply tell_plain (N := 106) (n := 5) (hf := Tryd.func146) (hN := rfl) (hres := rfl) (hT := tellT) (hok := by rfl) (h4 := by decide) (hne := by decide) (hn := by decide) (hbody := rfl)
  · apply twhole_seq
    · apply tell_str (i := 0) (o := 0) (eb := 5) tellT
      · kernel_rfl
      · kernel_rfl
      · kernel_rfl
      · rfl
      · rfl
      · decide
    · apply twhole_seq
      · apply tell_num64 (i := 1) (o := 1) tellT
        · kernel_rfl
        · kernel_rfl
        · rfl
        · rfl
        · decide
      · apply twhole_seq
        · apply tell_num (i := 2) (o := 2) (kd := .i16) tellT
          · kernel_rfl
          · kernel_rfl
          · exact kd_i16
          · kernel_rfl
          · kernel_rfl
          · rfl
          · rfl
          · decide
        · apply twhole_seq
          · apply tell_leaf (i := 3) (o := 3) tellT (leaf_bool tellT)
            · kernel_rfl
            · rfl
            · kernel_rfl
            · kernel_rfl
            · rfl
            · rfl
            · decide
          · apply twhole_list (i := 4) (E := (structT GAddPartitionsToTxnRequest_t200))
            · apply nul_list (i := 4) (o := 4) tellT
              · kernel_rfl
              · kernel_rfl
              · kernel_rfl
              · kernel_rfl
              · kernel_rfl
              · rfl
              · rfl
              · decide
              · decide
            · apply loop_list (i := 4) (o := 4)
              · apply app0_call (es := 207) tellT
                · exact hGAddPartitionsToTxnRequest_t200
                · kernel_rfl
                · rfl
                · rfl
                · kernel_rfl
                · kernel_rfl
                · kernel_rfl
                · rfl
                · kernel_rfl
                · rfl
                · decide
                · decide
              · apply app1_call (es := 207) tellT
                · exact hGAddPartitionsToTxnRequest_t200
                · kernel_rfl
                · rfl
                · rfl
                · kernel_rfl
                · kernel_rfl
                · kernel_rfl
                · rfl
                · kernel_rfl
                · rfl
                · decide
                · decide
              · rfl
              · exact ⟨.bool false, by kernel_rfl, rfl⟩
              · kernel_rfl
              · kernel_rfl
              · kernel_rfl
              · kernel_rfl
              · kernel_rfl
              · rfl
              · rfl
              · rfl
            · exact twhole_tags tellT tagT rfl (by kernel_rfl) (by rfl) (by kernel_rfl) (by kernel_rfl) (by kernel_rfl) each_spec sorted_spec (clo_rule Tryd.func201 rfl rfl tagT rfl)
set_option maxRecDepth 100000 in
theorem tell_AddPartitionsToTxnRequest : ∃ G, TellC Tryd.prog 99 sAddPartitionsToTxnRequest G := by
  obtain ⟨GAddPartitionsToTxnRequest_t145, hGAddPartitionsToTxnRequest_t145⟩ := tell_AddPartitionsToTxnRequest_t145
  obtain ⟨GAddPartitionsToTxnRequest_t146, hGAddPartitionsToTxnRequest_t146⟩ := tell_AddPartitionsToTxnRequest_t146
  apply Exists.intro
  apply tell_plain (N := 155) (n := 5) (hf := Tryd.func99) (hN := rfl) (hres := rfl) (hT := tellT) (hok := by rfl) (h4 := by decide) (hne := by decide) (hn := by decide) (hbody := rfl)
  · apply twhole_seq
    · apply tell_str (i := 1) (o := 1) (eb := 5) tellT
      · kernel_rfl
      · kernel_rfl
      · kernel_rfl
      · rfl
      · rfl
      · decide
    · apply twhole_seq
      · apply tell_num64 (i := 2) (o := 2) tellT
        · kernel_rfl
        · kernel_rfl
        · rfl
        · rfl
        · decide
      · apply twhole_seq
        · apply tell_num (i := 3) (o := 3) (kd := .i16) tellT
          · kernel_rfl
          · kernel_rfl
          · exact kd_i16
          · kernel_rfl
          · kernel_rfl
          · rfl
          · rfl
          · decide
        · apply twhole_list (i := 4) (E := (structT GAddPartitionsToTxnRequest_t145))
          · apply nul_list (i := 4) (o := 4) tellT
            · kernel_rfl
            · kernel_rfl
            · kernel_rfl
            · kernel_rfl
            · kernel_rfl
            · rfl
            · rfl
            · decide
            · decide
          · apply loop_list (i := 4) (o := 4)
            · apply app0_call (es := 159) tellT
              · exact hGAddPartitionsToTxnRequest_t145
              · kernel_rfl
              · rfl
              · rfl
              · kernel_rfl
              · kernel_rfl
              · kernel_rfl
              · rfl
              · kernel_rfl
              · rfl
              · decide
              · decide
            · apply app1_call (es := 159) tellT
              · exact hGAddPartitionsToTxnRequest_t145
              · kernel_rfl
              · rfl
              · rfl
              · kernel_rfl
              · kernel_rfl
              · kernel_rfl
              · rfl
              · kernel_rfl
              · rfl
              · decide
              · decide
            · rfl
            · exact ⟨.bool false, by kernel_rfl, rfl⟩
            · kernel_rfl
            · kernel_rfl
            · kernel_rfl
            · kernel_rfl
            · kernel_rfl
            · rfl
            · rfl
            · rfl
          · apply twhole_list (i := 5) (E := (structT GAddPartitionsToTxnRequest_t146))
            · apply nul_list (i := 5) (o := 5) tellT
              · kernel_rfl
              · kernel_rfl
              · kernel_rfl
              · kernel_rfl
              · kernel_rfl
              · rfl
              · rfl
              · decide
              · decide
            · apply loop_list (i := 5) (o := 5)
              · apply app0_call (es := 164) tellT
                · exact hGAddPartitionsToTxnRequest_t146
                · kernel_rfl
                · rfl
                · rfl
                · kernel_rfl
                · kernel_rfl
                · kernel_rfl
                · rfl
                · kernel_rfl
                · rfl
                · decide
                · decide
              · apply app1_call (es := 164) tellT
                · exact hGAddPartitionsToTxnRequest_t146
                · kernel_rfl
                · rfl
                · rfl
                · kernel_rfl
                · kernel_rfl
                · kernel_rfl
                · rfl
                · kernel_rfl
                · rfl
                · decide
                · decide
              · rfl
              · exact ⟨.bool false, by kernel_rfl, rfl⟩
              · kernel_rfl
              · kernel_rfl
              · kernel_rfl
              · kernel_rfl
              · kernel_rfl
              · rfl
              · rfl
              · rfl
            · exact twhole_tags tellT tagT rfl (by kernel_rfl) (by rfl) (by kernel_rfl) (by kernel_rfl) (by kernel_rfl) each_spec sorted_spec (clo_rule Tryd.func147 rfl rfl tagT rfl)
theorem doors_AddPartitionsToTxnRequest : ∃ ft v1 G, DoorC Tryd.prog 41 fl_AddPartitionsToTxnRequest ft v1 G ∧ DoorC Tryd.prog 42 fl_AddPartitionsToTxnRequest ft v1 G ∧ NsI ft v1 := by
  obtain ⟨ft, hr, hns⟩ := read_AddPartitionsToTxnRequest
  obtain ⟨G, hG⟩ := tell_AddPartitionsToTxnRequest
  refine ⟨ft, v_AddPartitionsToTxnRequest, G, ?_, ?_, hns⟩
  · exact door_rule Tryd.func41 rfl rfl tellT rfl (by kernel_rfl) (by kernel_rfl) (by kernel_rfl) (by kernel_rfl) (by kernel_rfl) (by kernel_rfl) (eb := 5) (by kernel_rfl) (by kernel_rfl) new_AddPartitionsToTxnRequest set_AddPartitionsToTxnRequest (rf_rule Tryd.func98 rfl rfl rfl hr (by kernel_rfl)) hG (by decide)
  · exact door_rule Tryd.func42 rfl rfl tellT rfl (by kernel_rfl) (by kernel_rfl) (by kernel_rfl) (by kernel_rfl) (by kernel_rfl) (by kernel_rfl) (eb := 5) (by kernel_rfl) (by kernel_rfl) new_AddPartitionsToTxnRequest set_AddPartitionsToTxnRequest (rf_rule Tryd.func100 rfl rfl rfl hr (by kernel_rfl)) hG (by decide)
end Go.Proofs.YtadfbhmpehnkeaaDoor
