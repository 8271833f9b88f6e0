/-
  LeaveGroupRequest: how it is read.
-/
import Derived.Laws.IdiomCopy
import Derived.Test.YthkpmmjcmldjhaaGreatDoorRRPWk
import Derived.Test.YthkpmmjcmldjhaaGreatDoorRRPMsgT
set_option linter.unusedSimpArgs false
set_option linter.unusedVariables false
namespace Go.Proofs.YthkpmmjcmldjhaaGreatDoorRR
open Go Go.RowKit
abbrev sLeaveGroupRequest : St := ⟨10, .cons 0 (.int .i16) (.cons 1 .str (.cons 2 .str (.cons 3 (.list (.struct (.cons 0 .str (.cons 1 .pstr (.cons 2 .pstr .nil))) (some 3) 4) 4) .nil))), some 4, 5⟩
theorem d_sLeaveGroupRequest : DfC Tryz.prog 30 sLeaveGroupRequest (fun v => v) := by
 apply dfc_rule (N := 2) (hf := Tryz.func30) (hbody := rfl) (hN := rfl) (hres := rfl) (hN1 := by decide)
 exact dblk_skip
abbrev sLeaveGroupRequest_1 : St := ⟨18, .cons 0 .str (.cons 1 .pstr (.cons 2 .pstr .nil)), some 3, 4⟩
theorem d_sLeaveGroupRequest_1 : DfC Tryz.prog 66 sLeaveGroupRequest_1 (fun v => v) := by
 apply dfc_rule (N := 2) (hf := Tryz.func66) (hbody := rfl) (hN := rfl) (hres := rfl) (hN1 := by decide)
 exact dblk_skip
abbrev v_LeaveGroupRequest : SV := (Lay.zeroL sLeaveGroupRequest.lay, ([] : Tags))
abbrev Zf : Int -> Bool := (fun ver => decide ((4 : Int) <= ver))
abbrev Zg : List FD := [.mk 8 0 (-1) (-1) (-1) 0 0 [], .mk 8 0 2 (-1) (-1) 0 0 [], .mk 11 3 (-1) (-1) (-1) 0 10 [.mk 8 0 (-1) (-1) (-1) 0 0 [], .mk 8 0 (-1) 0 (-1) 0 0 [], .mk 8 5 (-1) 5 (-1) 0 0 []]]
abbrev Zk : OkV := fun ver fl => 0 <= ver /\ ver <= 5 /\ fl = Zf ver
set_option maxRecDepth 100000 in
theorem read_LeaveGroupRequest : ∃ ft, ReadC Tryz.prog 39 sLeaveGroupRequest Zf ft /\ WrI Zk ft v_LeaveGroupRequest Zg := by
 apply Exists.intro
 constructor
 ·apply read_flex (m := 22) (N := 145) (hf := Tryz.func39) (hN := rfl) (hres := rfl) (hR := rdT) (h16 := by kernel_rfl) (hver := by kernel_rfl) (hlay := rfl) (hsz := rfl) (hs := rfl) (hm := by decide) (hmN := by decide)
   (hbd := by kernel_rfl) (hd := d_sLeaveGroupRequest) (hd0 := fun v n h => by simpa using h) (hbody := rfl)
  apply whole_seq
  ·apply blk_seq
   ·apply blk_nop
    rfl
   ·apply blk_get (i := 1)
    ·apply get_uns
     ·apply get_flex
      ·rfl
      ·apply get_call
       ·exact rc_UnsafeCompactString
       ·kernel_rfl
       ·rfl
      ·apply get_call
       ·exact rc_UnsafeString
       ·kernel_rfl
       ·rfl
      ·rfl
     ·apply get_flex
      ·rfl
      ·apply get_call
       ·exact rc_CompactString
       ·kernel_rfl
       ·rfl
      ·apply get_call
       ·exact rc_String
       ·kernel_rfl
       ·rfl
      ·rfl
     ·rfl
    ·apply blkV_put
     ·rfl
     ·rfl
     ·kernel_rfl
     ·kernel_rfl
     ·rfl
    ·rfl
   ·decide
  ·apply whole_seq
   ·apply blk_if
    ·apply tst_and
     rfl
    ·apply blk_seq
     ·apply blk_nop
      rfl
     ·apply blk_get (i := 2)
      ·apply get_uns
       ·apply get_flex
        ·rfl
        ·apply get_call
         ·exact rc_UnsafeCompactString
         ·kernel_rfl
         ·rfl
        ·apply get_call
         ·exact rc_UnsafeString
         ·kernel_rfl
         ·rfl
        ·rfl
       ·apply get_flex
        ·rfl
        ·apply get_call
         ·exact rc_CompactString
         ·kernel_rfl
         ·rfl
        ·apply get_call
         ·exact rc_String
         ·kernel_rfl
         ·rfl
        ·rfl
       ·rfl
      ·apply blkV_put
       ·rfl
       ·rfl
       ·kernel_rfl
       ·kernel_rfl
       ·rfl
      ·rfl
     ·decide
    ·exact blk_skip
    ·rfl
   ·apply whole_seq
    ·apply blk_if
     ·apply tst_geq
      rfl
     ·apply blk_list (i := 3)
      ·rfl
      ·rfl
      ·kernel_rfl
      ·kernel_rfl
      ·kernel_rfl
      ·apply get_flex
       ·rfl
       ·apply get_call
        ·exact rc_CompactArrayLen
        ·kernel_rfl
        ·rfl
       ·apply get_call
        ·exact rc_ArrayLen
        ·kernel_rfl
        ·rfl
       ·rfl
      ·apply ok_rule
       ·exact rd_Ok
       ·exact rd_Complete
       ·kernel_rfl
       ·kernel_rfl
       ·rfl
      ·apply cut_rule (sz := 4) (e := 79)
       ·kernel_rfl
       ·rfl
      ·apply grow_rule (e := 79) (zs := #[.string (str []), .pointer none, .pointer none, .map none])
       ·kernel_rfl
       ·kernel_rfl
       ·kernel_rfl
       ·rfl
      ·apply loop_rule
       ·apply elem_struct (σ := sLeaveGroupRequest_1) (e := 79) (z := from' #[.string (str []), .pointer none, .pointer none, .map none] 0) (z0 := (Lay.zeroL sLeaveGroupRequest_1.lay, []))
        ·apply blk_seq
         ·apply blk_seq
          ·apply blk_nop
           rfl
          ·apply blk_get (i := 0)
           ·apply get_uns
            ·apply get_flex
             ·rfl
             ·apply get_call
              ·exact rc_UnsafeCompactString
              ·kernel_rfl
              ·rfl
             ·apply get_call
              ·exact rc_UnsafeString
              ·kernel_rfl
              ·rfl
             ·rfl
            ·apply get_flex
             ·rfl
             ·apply get_call
              ·exact rc_CompactString
              ·kernel_rfl
              ·rfl
             ·apply get_call
              ·exact rc_String
              ·kernel_rfl
              ·rfl
             ·rfl
            ·rfl
           ·apply blkV_put
            ·rfl
            ·rfl
            ·kernel_rfl
            ·kernel_rfl
            ·rfl
           ·rfl
          ·decide
         ·apply blk_seq
          ·apply blk_seq
           ·apply blk_nop
            rfl
           ·apply blk_get (i := 1)
            ·apply get_flex
             ·rfl
             ·apply get_uns
              ·apply get_call
               ·exact rc_UnsafeCompactNullableString
               ·kernel_rfl
               ·rfl
              ·apply get_call
               ·exact rc_CompactNullableString
               ·kernel_rfl
               ·rfl
              ·rfl
             ·apply get_uns
              ·apply get_call
               ·exact rc_UnsafeNullableString
               ·kernel_rfl
               ·rfl
              ·apply get_call
               ·exact rc_NullableString
               ·kernel_rfl
               ·rfl
              ·rfl
             ·rfl
            ·apply blkV_put
             ·rfl
             ·rfl
             ·kernel_rfl
             ·kernel_rfl
             ·rfl
            ·rfl
           ·decide
          ·apply blk_seq
           ·apply blk_if
            ·apply tst_geq
             rfl
            ·apply blk_seq
             ·apply blk_nop
              rfl
             ·apply blk_get (i := 2)
              ·apply get_flex
               ·rfl
               ·apply get_uns
                ·apply get_call
                 ·exact rc_UnsafeCompactNullableString
                 ·kernel_rfl
                 ·rfl
                ·apply get_call
                 ·exact rc_CompactNullableString
                 ·kernel_rfl
                 ·rfl
                ·rfl
               ·apply get_uns
                ·apply get_call
                 ·exact rc_UnsafeNullableString
                 ·kernel_rfl
                 ·rfl
                ·apply get_call
                 ·exact rc_NullableString
                 ·kernel_rfl
                 ·rfl
                ·rfl
               ·rfl
              ·apply blkV_put
               ·rfl
               ·rfl
               ·kernel_rfl
               ·kernel_rfl
               ·rfl
              ·rfl
             ·decide
            ·exact blk_skip
            ·rfl
           ·apply blk_if
            ·apply tst_flex
             ·rfl
             ·rfl
            ·apply blk_tag
             ·exact readTags_spec
             ·kernel_rfl
             ·rfl
             ·kernel_rfl
             ·kernel_rfl
             ·rfl
             ·rfl
            ·exact blk_skip
            ·rfl
           ·decide
          ·decide
         ·decide
        ·exact d_sLeaveGroupRequest_1
        ·kernel_rfl
        ·kernel_rfl
        ·rfl
        ·rfl
        ·exact zero_ok (lay := sLeaveGroupRequest_1.lay) (tg := sLeaveGroupRequest_1.tg) (z := from' #[.string (str []), .pointer none, .pointer none, .map none] 0) (by repeat' (first | rfl | trivial | apply And.intro)) (by rfl)
        ·rfl
       ·rfl
      ·rfl
      ·rfl
      ·rfl
     ·exact blk_skip
     ·rfl
    ·apply whole_seq
     ·apply blk_if
      ·apply tst_flex
       ·rfl
       ·rfl
      ·apply blk_tag
       ·exact readTags_spec
       ·kernel_rfl
       ·rfl
       ·kernel_rfl
       ·kernel_rfl
       ·rfl
       ·rfl
      ·exact blk_skip
      ·rfl
     ·apply whole_end
      ·exact rd_Complete
      ·kernel_rfl
      ·rfl
     ·rfl
    ·rfl
   ·rfl
  ·rfl
 ·refine wr_read (zs := [.oct [], .oct [], .nul]) ?_ (fun ver => rfl)
  refine Zb (z := .oct []) ?_ (by kernel_rfl) ?_
  ·repeat' (first | (with_reducible refine piece_nop ?_) | (with_reducible refine piece_if ?_ ?_; rotate_left; · (refine has_if (by decide) ?_; intro v l h; simp [Zk, Zf] at h ⊢ <;> omega)))
   refine piece_put ?_ (FD.alw (by decide) (by intro v l h; simp [Zk, Zf] at h ⊢ <;> omega))
   repeat' (first | (with_reducible exact rdw_text) | (with_reducible exact rdw_ntext) | (with_reducible refine rdw_stiff rdw_text ?_; intro v l h; cases l with | false => rfl | true => (exfalso; simp [Zk, Zf] at h <;> omega)) | (with_reducible refine rdw_stiff rdw_ntext ?_; intro v l h; cases l with | false => rfl | true => (exfalso; simp [Zk, Zf] at h <;> omega)) | (with_reducible refine rdw_when ?_ ?_))
  refine Zb (z := .oct []) ?_ (by kernel_rfl) ?_
  ·repeat' (first | (with_reducible refine piece_nop ?_) | (with_reducible refine piece_if ?_ ?_; rotate_left; · (refine has_if (by decide) ?_; intro v l h; simp [Zk, Zf] at h ⊢ <;> omega)))
   refine piece_put ?_ (FD.alw (by decide) (by intro v l h; simp [Zk, Zf] at h ⊢ <;> omega))
   repeat' (first | (with_reducible exact rdw_text) | (with_reducible exact rdw_ntext) | (with_reducible refine rdw_stiff rdw_text ?_; intro v l h; cases l with | false => rfl | true => (exfalso; simp [Zk, Zf] at h <;> omega)) | (with_reducible refine rdw_stiff rdw_ntext ?_; intro v l h; cases l with | false => rfl | true => (exfalso; simp [Zk, Zf] at h <;> omega)) | (with_reducible refine rdw_when ?_ ?_))
  refine Zb (z := .nul) ?_ (by kernel_rfl) ?_
  ·repeat' (first | (with_reducible refine piece_nop ?_) | (with_reducible refine piece_if ?_ ?_; rotate_left; · (refine has_if (by decide) ?_; intro v l h; simp [Zk, Zf] at h ⊢ <;> omega)))
   refine piece_list ?_ ?_ (FD.alw (by decide) (by intro v l h; simp [Zk, Zf] at h ⊢ <;> omega)) ?_
   ·first | exact cnt_flex | exact cnt_stiff (by intro v l h; cases l with | false => rfl | true => (exfalso; simp [Zk, Zf] at h <;> omega))
   ·refine el_struct (zs := [.oct [], .ofOpt none, .ofOpt none]) ?_ (by intro v l h; simp [Zk, Zf] at h ⊢ <;> omega) (by decide)
    refine Zb (z := .oct []) ?_ (by kernel_rfl) ?_
    ·repeat' (first | (with_reducible refine piece_nop ?_) | (with_reducible refine piece_if ?_ ?_; rotate_left; · (refine has_if (by decide) ?_; intro v l h; simp [Zk, Zf] at h ⊢ <;> omega)))
     refine piece_put ?_ (FD.alw (by decide) (by intro v l h; simp [Zk, Zf] at h ⊢ <;> omega))
     repeat' (first | (with_reducible exact rdw_text) | (with_reducible exact rdw_ntext) | (with_reducible refine rdw_stiff rdw_text ?_; intro v l h; cases l with | false => rfl | true => (exfalso; simp [Zk, Zf] at h <;> omega)) | (with_reducible refine rdw_stiff rdw_ntext ?_; intro v l h; cases l with | false => rfl | true => (exfalso; simp [Zk, Zf] at h <;> omega)) | (with_reducible refine rdw_when ?_ ?_))
    refine Zb (z := .ofOpt none) ?_ (by kernel_rfl) ?_
    ·repeat' (first | (with_reducible refine piece_nop ?_) | (with_reducible refine piece_if ?_ ?_; rotate_left; · (refine has_if (by decide) ?_; intro v l h; simp [Zk, Zf] at h ⊢ <;> omega)))
     refine piece_put ?_ (FD.alw (by decide) (by intro v l h; simp [Zk, Zf] at h ⊢ <;> omega))
     repeat' (first | (with_reducible exact rdw_text) | (with_reducible exact rdw_ntext) | (with_reducible refine rdw_stiff rdw_text ?_; intro v l h; cases l with | false => rfl | true => (exfalso; simp [Zk, Zf] at h <;> omega)) | (with_reducible refine rdw_stiff rdw_ntext ?_; intro v l h; cases l with | false => rfl | true => (exfalso; simp [Zk, Zf] at h <;> omega)) | (with_reducible refine rdw_early rdw_text ?_; intro v l h; simp [Zk, Zf] at h ⊢ <;> omega) | (with_reducible refine rdw_early (rdw_stiff rdw_text ?_) ?_; · intro v l h; cases l with | false => rfl | true => (exfalso; simp [Zk, Zf] at h <;> omega); · intro v l h; simp [Zk, Zf] at h ⊢ <;> omega) | (with_reducible refine rdw_when ?_ ?_))
    refine Zb (z := .ofOpt none) ?_ (by kernel_rfl) ?_
    ·repeat' (first | (with_reducible refine piece_nop ?_) | (with_reducible refine piece_if ?_ ?_; rotate_left; · (refine has_if (by decide) ?_; intro v l h; simp [Zk, Zf] at h ⊢ <;> omega)))
     refine piece_put ?_ (FD.alw (by decide) (by intro v l h; simp [Zk, Zf] at h ⊢ <;> omega))
     repeat' (first | (with_reducible exact rdw_text) | (with_reducible exact rdw_ntext) | (with_reducible refine rdw_stiff rdw_text ?_; intro v l h; cases l with | false => rfl | true => (exfalso; simp [Zk, Zf] at h <;> omega)) | (with_reducible refine rdw_stiff rdw_ntext ?_; intro v l h; cases l with | false => rfl | true => (exfalso; simp [Zk, Zf] at h <;> omega)) | (with_reducible refine rdw_early rdw_text ?_; intro v l h; simp [Zk, Zf] at h ⊢ <;> omega) | (with_reducible refine rdw_early (rdw_stiff rdw_text ?_) ?_; · intro v l h; cases l with | false => rfl | true => (exfalso; simp [Zk, Zf] at h <;> omega); · intro v l h; simp [Zk, Zf] at h ⊢ <;> omega) | (with_reducible refine rdw_when ?_ ?_))
    first | exact chain_tags' (by intro v l h; rfl) | exact chain_tags (by intro v l h; rfl)
   ·intro v l h; simp [Zk, Zf] at h ⊢ <;> omega
  first | exact chain_tags' (by intro v l h; rfl) | exact chain_tags (by intro v l h; rfl)
end Go.Proofs.YthkpmmjcmldjhaaGreatDoorRR
