/-
  CreateDelegationTokenRequest: how it is read.
-/
import Derived.Laws.IdiomCopy
import Derived.Test.YthkpmmjcmldjhaaGreatDoorRRPWk
import Derived.Test.YthkpmmjcmldjhaaGreatDoorRRPMsgT
set_option linter.unusedSimpArgs false
set_option linter.unusedVariables false
namespace Go.Proofs.YthkpmmjcmldjhaaGreatDoorRR
open Go Go.RowKit
abbrev sCreateDelegationTokenRequest : St := ⟨10, .cons 0 (.int .i16) (.cons 1 .pstr (.cons 2 .pstr (.cons 3 (.list (.struct (.cons 0 .str (.cons 1 .str .nil)) (some 2) 3) 3) (.cons 4 (.int .i64) .nil)))), some 5, 6⟩
theorem d_sCreateDelegationTokenRequest : DfC Tryz.prog 49 sCreateDelegationTokenRequest (fun v => v) := by
 apply dfc_rule (N := 2) (hf := Tryz.func49) (hbody := rfl) (hN := rfl) (hres := rfl) (hN1 := by decide)
 exact dblk_skip
abbrev sCreateDelegationTokenRequest_1 : St := ⟨18, .cons 0 .str (.cons 1 .str .nil), some 2, 3⟩
theorem d_sCreateDelegationTokenRequest_1 : DfC Tryz.prog 77 sCreateDelegationTokenRequest_1 (fun v => v) := by
 apply dfc_rule (N := 2) (hf := Tryz.func77) (hbody := rfl) (hN := rfl) (hres := rfl) (hN1 := by decide)
 exact dblk_skip
abbrev v_CreateDelegationTokenRequest : SV := (Lay.zeroL sCreateDelegationTokenRequest.lay, ([] : Tags))
abbrev Zf : Int -> Bool := (fun ver => decide ((2 : Int) <= ver))
abbrev Zg : List FD := [.mk 8 3 (-1) 3 (-1) 0 0 [], .mk 8 3 (-1) 3 (-1) 0 0 [], .mk 11 0 (-1) (-1) (-1) 0 10 [.mk 8 0 (-1) (-1) (-1) 0 0 [], .mk 8 0 (-1) (-1) (-1) 0 0 []], .mk 4 0 (-1) (-1) (-1) 0 0 []]
abbrev Zk : OkV := fun ver fl => 0 <= ver /\ ver <= 3 /\ fl = Zf ver
set_option maxRecDepth 100000 in
theorem read_CreateDelegationTokenRequest : ∃ ft, ReadC Tryz.prog 50 sCreateDelegationTokenRequest Zf ft /\ WrI Zk ft v_CreateDelegationTokenRequest Zg := by
 apply Exists.intro
 constructor
 ·apply read_flex (m := 22) (N := 133) (hf := Tryz.func50) (hN := rfl) (hres := rfl) (hR := rdT) (h16 := by kernel_rfl) (hver := by kernel_rfl) (hlay := rfl) (hsz := rfl) (hs := rfl) (hm := by decide) (hmN := by decide)
   (hbd := by kernel_rfl) (hd := d_sCreateDelegationTokenRequest) (hd0 := fun v n h => by simpa using h) (hbody := rfl)
  apply whole_seq
  ·apply blk_if
   ·apply tst_geq
    rfl
   ·apply blk_seq
    ·apply blk_nop
     rfl
    ·apply blk_get (i := 1)
     ·apply get_flex
      ·rfl
      ·apply get_uns
       ·apply get_call
        ·exact rc_UnsafeCompactNullableString
        ·kernel_rfl
        ·rfl
       ·apply get_call
        ·exact rc_CompactNullableString
        ·kernel_rfl
        ·rfl
       ·rfl
      ·apply get_uns
       ·apply get_call
        ·exact rc_UnsafeNullableString
        ·kernel_rfl
        ·rfl
       ·apply get_call
        ·exact rc_NullableString
        ·kernel_rfl
        ·rfl
       ·rfl
      ·rfl
     ·apply blkV_put
      ·rfl
      ·rfl
      ·kernel_rfl
      ·kernel_rfl
      ·rfl
     ·rfl
    ·decide
   ·exact blk_skip
   ·rfl
  ·apply whole_seq
   ·apply blk_if
    ·apply tst_geq
     rfl
    ·apply blk_seq
     ·apply blk_nop
      rfl
     ·apply blk_get (i := 2)
      ·apply get_flex
       ·rfl
       ·apply get_uns
        ·apply get_call
         ·exact rc_UnsafeCompactNullableString
         ·kernel_rfl
         ·rfl
        ·apply get_call
         ·exact rc_CompactNullableString
         ·kernel_rfl
         ·rfl
        ·rfl
       ·apply get_uns
        ·apply get_call
         ·exact rc_UnsafeNullableString
         ·kernel_rfl
         ·rfl
        ·apply get_call
         ·exact rc_NullableString
         ·kernel_rfl
         ·rfl
        ·rfl
       ·rfl
      ·apply blkV_put
       ·rfl
       ·rfl
       ·kernel_rfl
       ·kernel_rfl
       ·rfl
      ·rfl
     ·decide
    ·exact blk_skip
    ·rfl
   ·apply whole_seq
    ·apply blk_list (i := 3)
     ·rfl
     ·rfl
     ·kernel_rfl
     ·kernel_rfl
     ·kernel_rfl
     ·apply get_flex
      ·rfl
      ·apply get_call
       ·exact rc_CompactArrayLen
       ·kernel_rfl
       ·rfl
      ·apply get_call
       ·exact rc_ArrayLen
       ·kernel_rfl
       ·rfl
      ·rfl
     ·apply ok_rule
      ·exact rd_Ok
      ·exact rd_Complete
      ·kernel_rfl
      ·kernel_rfl
      ·rfl
     ·apply cut_rule (sz := 3) (e := 87)
      ·kernel_rfl
      ·rfl
     ·apply grow_rule (e := 87) (zs := #[.string (str []), .string (str []), .map none])
      ·kernel_rfl
      ·kernel_rfl
      ·kernel_rfl
      ·rfl
     ·apply loop_rule
      ·apply elem_struct (σ := sCreateDelegationTokenRequest_1) (e := 87) (z := from' #[.string (str []), .string (str []), .map none] 0) (z0 := (Lay.zeroL sCreateDelegationTokenRequest_1.lay, []))
       ·apply blk_seq
        ·apply blk_seq
         ·apply blk_nop
          rfl
         ·apply blk_get (i := 0)
          ·apply get_uns
           ·apply get_flex
            ·rfl
            ·apply get_call
             ·exact rc_UnsafeCompactString
             ·kernel_rfl
             ·rfl
            ·apply get_call
             ·exact rc_UnsafeString
             ·kernel_rfl
             ·rfl
            ·rfl
           ·apply get_flex
            ·rfl
            ·apply get_call
             ·exact rc_CompactString
             ·kernel_rfl
             ·rfl
            ·apply get_call
             ·exact rc_String
             ·kernel_rfl
             ·rfl
            ·rfl
           ·rfl
          ·apply blkV_put
           ·rfl
           ·rfl
           ·kernel_rfl
           ·kernel_rfl
           ·rfl
          ·rfl
         ·decide
        ·apply blk_seq
         ·apply blk_seq
          ·apply blk_nop
           rfl
          ·apply blk_get (i := 1)
           ·apply get_uns
            ·apply get_flex
             ·rfl
             ·apply get_call
              ·exact rc_UnsafeCompactString
              ·kernel_rfl
              ·rfl
             ·apply get_call
              ·exact rc_UnsafeString
              ·kernel_rfl
              ·rfl
             ·rfl
            ·apply get_flex
             ·rfl
             ·apply get_call
              ·exact rc_CompactString
              ·kernel_rfl
              ·rfl
             ·apply get_call
              ·exact rc_String
              ·kernel_rfl
              ·rfl
             ·rfl
            ·rfl
           ·apply blkV_put
            ·rfl
            ·rfl
            ·kernel_rfl
            ·kernel_rfl
            ·rfl
           ·rfl
          ·decide
         ·apply blk_if
          ·apply tst_flex
           ·rfl
           ·rfl
          ·apply blk_tag
           ·exact readTags_spec
           ·kernel_rfl
           ·rfl
           ·kernel_rfl
           ·kernel_rfl
           ·rfl
           ·rfl
          ·exact blk_skip
          ·rfl
         ·decide
        ·decide
       ·exact d_sCreateDelegationTokenRequest_1
       ·kernel_rfl
       ·kernel_rfl
       ·rfl
       ·rfl
       ·exact zero_ok (lay := sCreateDelegationTokenRequest_1.lay) (tg := sCreateDelegationTokenRequest_1.tg) (z := from' #[.string (str []), .string (str []), .map none] 0) (by repeat' (first | rfl | trivial | apply And.intro)) (by rfl)
       ·rfl
      ·rfl
     ·rfl
     ·rfl
     ·rfl
    ·apply whole_seq
     ·apply blk_get (i := 4)
      ·apply get_call
       ·exact rc_Int64
       ·kernel_rfl
       ·rfl
      ·apply blkV_put
       ·rfl
       ·rfl
       ·kernel_rfl
       ·kernel_rfl
       ·rfl
      ·rfl
     ·apply whole_seq
      ·apply blk_if
       ·apply tst_flex
        ·rfl
        ·rfl
       ·apply blk_tag
        ·exact readTags_spec
        ·kernel_rfl
        ·rfl
        ·kernel_rfl
        ·kernel_rfl
        ·rfl
        ·rfl
       ·exact blk_skip
       ·rfl
      ·apply whole_end
       ·exact rd_Complete
       ·kernel_rfl
       ·rfl
      ·rfl
     ·rfl
    ·rfl
   ·rfl
  ·rfl
 ·refine wr_read (zs := [.ofOpt none, .ofOpt none, .nul, .num 0]) ?_ (fun ver => rfl)
  refine Zb (z := .ofOpt none) ?_ (by kernel_rfl) ?_
  ·repeat' (first | (with_reducible refine piece_nop ?_) | (with_reducible refine piece_if ?_ ?_; rotate_left; · (refine has_if (by decide) ?_; intro v l h; simp [Zk, Zf] at h ⊢ <;> omega)))
   refine piece_put ?_ (FD.alw (by decide) (by intro v l h; simp [Zk, Zf] at h ⊢ <;> omega))
   repeat' (first | (with_reducible exact rdw_text) | (with_reducible exact rdw_ntext) | (with_reducible refine rdw_stiff rdw_text ?_; intro v l h; cases l with | false => rfl | true => (exfalso; simp [Zk, Zf] at h <;> omega)) | (with_reducible refine rdw_stiff rdw_ntext ?_; intro v l h; cases l with | false => rfl | true => (exfalso; simp [Zk, Zf] at h <;> omega)) | (with_reducible refine rdw_early rdw_text ?_; intro v l h; simp [Zk, Zf] at h ⊢ <;> omega) | (with_reducible refine rdw_early (rdw_stiff rdw_text ?_) ?_; · intro v l h; cases l with | false => rfl | true => (exfalso; simp [Zk, Zf] at h <;> omega); · intro v l h; simp [Zk, Zf] at h ⊢ <;> omega) | (with_reducible refine rdw_when ?_ ?_))
  refine Zb (z := .ofOpt none) ?_ (by kernel_rfl) ?_
  ·repeat' (first | (with_reducible refine piece_nop ?_) | (with_reducible refine piece_if ?_ ?_; rotate_left; · (refine has_if (by decide) ?_; intro v l h; simp [Zk, Zf] at h ⊢ <;> omega)))
   refine piece_put ?_ (FD.alw (by decide) (by intro v l h; simp [Zk, Zf] at h ⊢ <;> omega))
   repeat' (first | (with_reducible exact rdw_text) | (with_reducible exact rdw_ntext) | (with_reducible refine rdw_stiff rdw_text ?_; intro v l h; cases l with | false => rfl | true => (exfalso; simp [Zk, Zf] at h <;> omega)) | (with_reducible refine rdw_stiff rdw_ntext ?_; intro v l h; cases l with | false => rfl | true => (exfalso; simp [Zk, Zf] at h <;> omega)) | (with_reducible refine rdw_early rdw_text ?_; intro v l h; simp [Zk, Zf] at h ⊢ <;> omega) | (with_reducible refine rdw_early (rdw_stiff rdw_text ?_) ?_; · intro v l h; cases l with | false => rfl | true => (exfalso; simp [Zk, Zf] at h <;> omega); · intro v l h; simp [Zk, Zf] at h ⊢ <;> omega) | (with_reducible refine rdw_when ?_ ?_))
  refine Zb (z := .nul) ?_ (by kernel_rfl) ?_
  ·repeat' (first | (with_reducible refine piece_nop ?_) | (with_reducible refine piece_if ?_ ?_; rotate_left; · (refine has_if (by decide) ?_; intro v l h; simp [Zk, Zf] at h ⊢ <;> omega)))
   refine piece_list ?_ ?_ (FD.alw (by decide) (by intro v l h; simp [Zk, Zf] at h ⊢ <;> omega)) ?_
   ·first | exact cnt_flex | exact cnt_stiff (by intro v l h; cases l with | false => rfl | true => (exfalso; simp [Zk, Zf] at h <;> omega))
   ·refine el_struct (zs := [.oct [], .oct []]) ?_ (by intro v l h; simp [Zk, Zf] at h ⊢ <;> omega) (by decide)
    refine Zb (z := .oct []) ?_ (by kernel_rfl) ?_
    ·repeat' (first | (with_reducible refine piece_nop ?_) | (with_reducible refine piece_if ?_ ?_; rotate_left; · (refine has_if (by decide) ?_; intro v l h; simp [Zk, Zf] at h ⊢ <;> omega)))
     refine piece_put ?_ (FD.alw (by decide) (by intro v l h; simp [Zk, Zf] at h ⊢ <;> omega))
     repeat' (first | (with_reducible exact rdw_text) | (with_reducible exact rdw_ntext) | (with_reducible refine rdw_stiff rdw_text ?_; intro v l h; cases l with | false => rfl | true => (exfalso; simp [Zk, Zf] at h <;> omega)) | (with_reducible refine rdw_stiff rdw_ntext ?_; intro v l h; cases l with | false => rfl | true => (exfalso; simp [Zk, Zf] at h <;> omega)) | (with_reducible refine rdw_when ?_ ?_))
    refine Zb (z := .oct []) ?_ (by kernel_rfl) ?_
    ·repeat' (first | (with_reducible refine piece_nop ?_) | (with_reducible refine piece_if ?_ ?_; rotate_left; · (refine has_if (by decide) ?_; intro v l h; simp [Zk, Zf] at h ⊢ <;> omega)))
     refine piece_put ?_ (FD.alw (by decide) (by intro v l h; simp [Zk, Zf] at h ⊢ <;> omega))
     repeat' (first | (with_reducible exact rdw_text) | (with_reducible exact rdw_ntext) | (with_reducible refine rdw_stiff rdw_text ?_; intro v l h; cases l with | false => rfl | true => (exfalso; simp [Zk, Zf] at h <;> omega)) | (with_reducible refine rdw_stiff rdw_ntext ?_; intro v l h; cases l with | false => rfl | true => (exfalso; simp [Zk, Zf] at h <;> omega)) | (with_reducible refine rdw_when ?_ ?_))
    first | exact chain_tags' (by intro v l h; rfl) | exact chain_tags (by intro v l h; rfl)
   ·intro v l h; simp [Zk, Zf] at h ⊢ <;> omega
  refine Zb (z := .num 0) ?_ (by kernel_rfl) ?_
  ·repeat' (first | (with_reducible refine piece_nop ?_) | (with_reducible refine piece_if ?_ ?_; rotate_left; · (refine has_if (by decide) ?_; intro v l h; simp [Zk, Zf] at h ⊢ <;> omega)))
   refine piece_put ?_ (FD.alw (by decide) (by intro v l h; simp [Zk, Zf] at h ⊢ <;> omega))
   repeat' (first | (with_reducible exact rdw_int64) | (with_reducible refine rdw_stiff rdw_int64 ?_; intro v l h; cases l with | false => rfl | true => (exfalso; simp [Zk, Zf] at h <;> omega)) | (with_reducible refine rdw_when ?_ ?_))
  first | exact chain_tags' (by intro v l h; rfl) | exact chain_tags (by intro v l h; rfl)
end Go.Proofs.YthkpmmjcmldjhaaGreatDoorRR
