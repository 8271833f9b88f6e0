/-
  InitProducerIDRequest: how it is read.
-/
import Derived.Test.YtidkekohcmejlaaDoorKNs
import Derived.Test.YtidkekohcmejlaaDoorKMsgT
import Derived.Test.YtidkekohcmejlaaDoorKUu
set_option linter.unusedSimpArgs false
set_option linter.unusedVariables false
namespace Go.Proofs.YtidkekohcmejlaaDoor
open Go Go.RowKit

abbrev sInitProducerIDRequest : St := ⟨10, .cons 0 (.int .i16) (.cons 1 .pstr (.cons 2 (.int .i32) (.cons 3 (.int .i64) (.cons 4 (.int .i16) .nil)))), some 5, 6⟩
theorem d_sInitProducerIDRequest : DfC Tryd.prog 98 sInitProducerIDRequest (fun v => ((((v).1.set 3 (.num (-1)), (v).2)).1.set 4 (.num (-1)), (((v).1.set 3 (.num (-1)), (v).2)).2)) := by
  apply dfc_rule (N := 8) (hf := Tryd.func98) (hbody := rfl) (hN := rfl) (hres := rfl) (hN1 := by decide)
  apply dblk_seq (d := fun v => ((v).1.set 3 (.num (-1)), (v).2)) (d' := fun v => ((v).1.set 4 (.num (-1)), (v).2))
  · apply dblk_set (i := 3) (u := .num (-1)) (hat := rfl) (hok := by rfl) (h1 := rfl) (hf := by kernel_rfl) (hsz := by kernel_rfl) (hval := rfl) (hrep := fun w F => by simp only [Rep]; exact ⟨_, rfl, by simp [fits, IntKind.min, IntKind.max, IntKind.signed, IntKind.bits], rfl⟩) (hs := by rfl)
  · apply dblk_set (i := 4) (u := .num (-1)) (hat := rfl) (hok := by rfl) (h1 := rfl) (hf := by kernel_rfl) (hsz := by kernel_rfl) (hval := rfl) (hrep := fun w F => by simp only [Rep]; exact ⟨_, rfl, by simp [fits, IntKind.min, IntKind.max, IntKind.signed, IntKind.bits], rfl⟩) (hs := by rfl)
abbrev v_InitProducerIDRequest : SV := (((((Lay.zeroL sInitProducerIDRequest.lay, ([] : Tags))).1.set 3 (.num (-1)), ((Lay.zeroL sInitProducerIDRequest.lay, ([] : Tags))).2)).1.set 4 (.num (-1)), ((((Lay.zeroL sInitProducerIDRequest.lay, ([] : Tags))).1.set 3 (.num (-1)), ((Lay.zeroL sInitProducerIDRequest.lay, ([] : Tags))).2)).2)
abbrev fl_InitProducerIDRequest : Int → Bool := (fun ver => decide ((2 : Int) ≤ ver))
set_option maxRecDepth 100000 in
theorem read_InitProducerIDRequest : ∃ ft, ReadC Tryd.prog 99 sInitProducerIDRequest fl_InitProducerIDRequest ft ∧ NsI ft v_InitProducerIDRequest := by
  apply Exists.intro
  constructor
  · apply read_flex (m := 15) (N := 64) (hf := Tryd.func99) (hN := rfl) (hres := rfl) (hR := rdT) (h16 := by kernel_rfl) (hver := by kernel_rfl) (hlay := rfl) (hsz := rfl) (hs := rfl) (hm := by decide) (hmN := by decide)
      (hbd := by kernel_rfl) (hd := d_sInitProducerIDRequest) (hd0 := fun v n h => by simpa using h) (hbody := rfl)
    apply whole_seq
    · apply blk_seq
      · apply blk_nop
        rfl
      · apply blk_get (i := 1)
        · apply get_flex
          · rfl
          · apply get_uns
            · apply get_call
              · exact rc_UnsafeCompactNullableString
              · kernel_rfl
              · rfl
            · apply get_call
              · exact rc_CompactNullableString
              · kernel_rfl
              · rfl
            · rfl
          · apply get_uns
            · apply get_call
              · exact rc_UnsafeNullableString
              · kernel_rfl
              · rfl
            · apply get_call
              · exact rc_NullableString
              · kernel_rfl
              · rfl
            · rfl
          · rfl
        · apply blkV_put
          · rfl
          · rfl
          · kernel_rfl
          · kernel_rfl
          · rfl
        · rfl
      · decide
    · apply whole_seq
      · apply blk_get (i := 2)
        · apply get_call
          · exact rc_Int32
          · kernel_rfl
          · rfl
        · apply blkV_put
          · rfl
          · rfl
          · kernel_rfl
          · kernel_rfl
          · rfl
        · rfl
      · apply whole_seq
        · apply blk_if
          · apply tst_geq
            rfl
          · apply blk_get (i := 3)
            · apply get_call
              · exact rc_Int64
              · kernel_rfl
              · rfl
            · apply blkV_put
              · rfl
              · rfl
              · kernel_rfl
              · kernel_rfl
              · rfl
            · rfl
          · exact blk_skip
          · rfl
        · apply whole_seq
          · apply blk_if
            · apply tst_geq
              rfl
            · apply blk_get (i := 4)
              · apply get_call
                · exact rc_Int16
                · kernel_rfl
                · rfl
              · apply blkV_put
                · rfl
                · rfl
                · kernel_rfl
                · kernel_rfl
                · rfl
              · rfl
            · exact blk_skip
            · rfl
          · apply whole_seq
            · apply blk_if
              · apply tst_flex
                · rfl
                · rfl
              · apply blk_tag
                · exact readTags_spec
                · kernel_rfl
                · rfl
                · kernel_rfl
                · kernel_rfl
                · rfl
                · rfl
              · exact blk_skip
              · rfl
            · apply whole_end
              · exact rd_Complete
              · kernel_rfl
              · rfl
            · rfl
          · rfl
        · rfl
      · rfl
    · rfl
  · apply ns_read (A := [])
    · repeat' (first | (with_reducible (first | exact nse_ok | exact ns_tag | exact ns_id | exact ns_put | apply ns_skip | apply ns_list | apply ns_sub | apply ns_psub | apply nse_struct | apply ns_if | apply ns_then)) | rfl)
    · intro ver; rfl
end Go.Proofs.YtidkekohcmejlaaDoor
