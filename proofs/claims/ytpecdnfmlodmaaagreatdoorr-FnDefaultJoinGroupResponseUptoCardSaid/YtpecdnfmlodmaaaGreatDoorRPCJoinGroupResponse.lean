/-
  JoinGroupResponse: how it is read.
  JoinGroupResponse: its doors.
  FnDefaultJoinGroupResponse: the walk through the law.
  FnDefaultJoinGroupResponse: the row and its card.
-/
import Derived.Laws.IdiomCopy
import Derived.Test.YtpecdnfmlodmaaaGreatDoorRCards
import Derived.Test.YtpecdnfmlodmaaaGreatDoorRTie
import Derived.WalkKit
import Derived.ProofKit
import Derived.OpenShut
import Derived.Below
import Derived.ChangeSame
import Derived.ChangeSlices
import Derived.Stop.LaidErr
import Derived.Deep.DeepHandedRow
import Derived.Deep.DeepWitnessRowRef
import Derived.ReadAgain
import Derived.Test.YtpecdnfmlodmaaaGreatDoorRPDd
import Derived.Test.YtpecdnfmlodmaaaGreatDoorRPDf
import Derived.Test.YtpecdnfmlodmaaaGreatDoorRPWr
set_option linter.unusedSimpArgs false
set_option linter.unusedVariables false
namespace Go.Proofs.YtpecdnfmlodmaaaGreatDoorR
open Go Go.RowKit
abbrev sJoinGroupResponse : St := ⟨10, .cons 0 (.int .i16) (.cons 1 (.int .i32) (.cons 2 (.int .i16) (.cons 3 (.int .i32) (.cons 4 .pstr (.cons 5 .pstr (.cons 6 .str (.cons 7 .bool (.cons 8 .str (.cons 9 (.list (.struct (.cons 0 .str (.cons 1 .pstr (.cons 2 .bytes .nil))) (some 3) 4) 4) .nil))))))))), some 10, 11⟩
theorem d_sJoinGroupResponse : DfC Tryz.prog 97 sJoinGroupResponse (fun v => ((v).1.set 3 (.num (-1)), (v).2)) := by
 apply dfc_rule (N := 5) (hf := Tryz.func97) (hbody := rfl) (hN := rfl) (hres := rfl) (hN1 := by decide)
 apply dblk_set (i := 3) (u := .num (-1)) (hat := rfl) (hok := by rfl) (h1 := rfl) (hf := by kernel_rfl) (hsz := by kernel_rfl) (hval := rfl) (hrep := fun w F => by simp only [Rep]; exact ⟨_, rfl, by simp [fits, IntKind.min, IntKind.max, IntKind.signed, IntKind.bits], rfl⟩) (hs := by rfl)
abbrev sJoinGroupResponse_1 : St := ⟨25, .cons 0 .str (.cons 1 .pstr (.cons 2 .bytes .nil)), some 3, 4⟩
theorem d_sJoinGroupResponse_1 : DfC Tryz.prog 223 sJoinGroupResponse_1 (fun v => v) := by
 apply dfc_rule (N := 2) (hf := Tryz.func223) (hbody := rfl) (hN := rfl) (hres := rfl) (hN1 := by decide)
 exact dblk_skip
abbrev v_JoinGroupResponse : SV := (((Lay.zeroL sJoinGroupResponse.lay, ([] : Tags))).1.set 3 (.num (-1)), ((Lay.zeroL sJoinGroupResponse.lay, ([] : Tags))).2)
abbrev Zf : Int -> Bool := (fun ver => decide ((6 : Int) <= ver))
abbrev Zg : List FD := [.mk 3 2 (-1) (-1) (-1) 0 0 [], .mk 2 0 (-1) (-1) (-1) 0 0 [], .mk 3 0 (-1) (-1) (-1) (-1) 0 [], .mk 8 7 (-1) 7 (-1) 0 0 [], .mk 8 0 (-1) 7 (-1) 0 0 [], .mk 8 0 (-1) (-1) (-1) 0 0 [], .mk 0 9 (-1) (-1) (-1) 0 0 [], .mk 8 0 (-1) (-1) (-1) 0 0 [], .mk 11 0 (-1) (-1) (-1) 0 10 [.mk 8 0 (-1) (-1) (-1) 0 0 [], .mk 8 5 (-1) 5 (-1) 0 0 [], .mk 9 0 (-1) (-1) (-1) 0 0 []]]
abbrev Zk : OkV := fun ver fl => 0 <= ver /\ ver <= 9 /\ fl = Zf ver
set_option maxRecDepth 100000 in
theorem read_JoinGroupResponse : ∃ ft, ReadC Tryz.prog 150 sJoinGroupResponse Zf ft /\ WrI Zk ft v_JoinGroupResponse Zg := by
 apply Exists.intro
 constructor
 ·apply read_flex (m := 29) (N := 197) (hf := Tryz.func150) (hN := rfl) (hres := rfl) (hR := rdT) (h16 := by kernel_rfl) (hver := by kernel_rfl) (hlay := rfl) (hsz := rfl) (hs := rfl) (hm := by decide) (hmN := by decide)
   (hbd := by kernel_rfl) (hd := d_sJoinGroupResponse) (hd0 := fun v n h => by simpa using h) (hbody := rfl)
  apply whole_seq
  ·apply blk_if
   ·apply tst_geq
    rfl
   ·apply blk_get (i := 1)
    ·apply get_call
     ·exact rc_Int32
     ·kernel_rfl
     ·rfl
    ·apply blkV_put
     ·rfl
     ·rfl
     ·kernel_rfl
     ·kernel_rfl
     ·rfl
    ·rfl
   ·exact blk_skip
   ·rfl
  ·apply whole_seq
   ·apply blk_get (i := 2)
    ·apply get_call
     ·exact rc_Int16
     ·kernel_rfl
     ·rfl
    ·apply blkV_put
     ·rfl
     ·rfl
     ·kernel_rfl
     ·kernel_rfl
     ·rfl
    ·rfl
   ·apply whole_seq
    ·apply blk_get (i := 3)
     ·apply get_call
      ·exact rc_Int32
      ·kernel_rfl
      ·rfl
     ·apply blkV_put
      ·rfl
      ·rfl
      ·kernel_rfl
      ·kernel_rfl
      ·rfl
     ·rfl
    ·apply whole_seq
     ·apply blk_if
      ·apply tst_geq
       rfl
      ·apply blk_seq
       ·apply blk_nop
        rfl
       ·apply blk_get (i := 4)
        ·apply get_flex
         ·rfl
         ·apply get_uns
          ·apply get_call
           ·exact rc_UnsafeCompactNullableString
           ·kernel_rfl
           ·rfl
          ·apply get_call
           ·exact rc_CompactNullableString
           ·kernel_rfl
           ·rfl
          ·rfl
         ·apply get_uns
          ·apply get_call
           ·exact rc_UnsafeNullableString
           ·kernel_rfl
           ·rfl
          ·apply get_call
           ·exact rc_NullableString
           ·kernel_rfl
           ·rfl
          ·rfl
         ·rfl
        ·apply blkV_put
         ·rfl
         ·rfl
         ·kernel_rfl
         ·kernel_rfl
         ·rfl
        ·rfl
       ·decide
      ·exact blk_skip
      ·rfl
     ·apply whole_seq
      ·apply blk_seq
       ·apply blk_nop
        rfl
       ·apply blk_get (i := 5)
        ·apply get_if
         ·apply tst_lss
          rfl
         ·apply get_box (q := ⟨#[]⟩)
          ·apply getb_cond
           ·apply tst_flex
            ·rfl
            ·rfl
           ·apply getb_uns
            ·apply getb_call
             ·exact rc_UnsafeCompactString
             ·kernel_rfl
             ·kernel_rfl
             ·rfl
            ·apply getb_call
             ·exact rc_CompactString
             ·kernel_rfl
             ·kernel_rfl
             ·rfl
            ·rfl
           ·apply getb_uns
            ·apply getb_call
             ·exact rc_UnsafeString
             ·kernel_rfl
             ·kernel_rfl
             ·rfl
            ·apply getb_call
             ·exact rc_String
             ·kernel_rfl
             ·kernel_rfl
             ·rfl
            ·rfl
           ·rfl
          ·kernel_rfl
          ·rfl
         ·apply get_flex
          ·rfl
          ·apply get_uns
           ·apply get_call
            ·exact rc_UnsafeCompactNullableString
            ·kernel_rfl
            ·rfl
           ·apply get_call
            ·exact rc_CompactNullableString
            ·kernel_rfl
            ·rfl
           ·rfl
          ·apply get_uns
           ·apply get_call
            ·exact rc_UnsafeNullableString
            ·kernel_rfl
            ·rfl
           ·apply get_call
            ·exact rc_NullableString
            ·kernel_rfl
            ·rfl
           ·rfl
          ·rfl
        ·apply blkV_put
         ·rfl
         ·rfl
         ·kernel_rfl
         ·kernel_rfl
         ·rfl
        ·rfl
       ·decide
      ·apply whole_seq
       ·apply blk_seq
        ·apply blk_nop
         rfl
        ·apply blk_get (i := 6)
         ·apply get_uns
          ·apply get_flex
           ·rfl
           ·apply get_call
            ·exact rc_UnsafeCompactString
            ·kernel_rfl
            ·rfl
           ·apply get_call
            ·exact rc_UnsafeString
            ·kernel_rfl
            ·rfl
           ·rfl
          ·apply get_flex
           ·rfl
           ·apply get_call
            ·exact rc_CompactString
            ·kernel_rfl
            ·rfl
           ·apply get_call
            ·exact rc_String
            ·kernel_rfl
            ·rfl
           ·rfl
          ·rfl
         ·apply blkV_put
          ·rfl
          ·rfl
          ·kernel_rfl
          ·kernel_rfl
          ·rfl
         ·rfl
        ·decide
       ·apply whole_seq
        ·apply blk_if
         ·apply tst_geq
          rfl
         ·apply blk_get (i := 7)
          ·apply get_call
           ·exact rc_Bool
           ·kernel_rfl
           ·rfl
          ·apply blkV_put
           ·rfl
           ·rfl
           ·kernel_rfl
           ·kernel_rfl
           ·rfl
          ·rfl
         ·exact blk_skip
         ·rfl
        ·apply whole_seq
         ·apply blk_seq
          ·apply blk_nop
           rfl
          ·apply blk_get (i := 8)
           ·apply get_uns
            ·apply get_flex
             ·rfl
             ·apply get_call
              ·exact rc_UnsafeCompactString
              ·kernel_rfl
              ·rfl
             ·apply get_call
              ·exact rc_UnsafeString
              ·kernel_rfl
              ·rfl
             ·rfl
            ·apply get_flex
             ·rfl
             ·apply get_call
              ·exact rc_CompactString
              ·kernel_rfl
              ·rfl
             ·apply get_call
              ·exact rc_String
              ·kernel_rfl
              ·rfl
             ·rfl
            ·rfl
           ·apply blkV_put
            ·rfl
            ·rfl
            ·kernel_rfl
            ·kernel_rfl
            ·rfl
           ·rfl
          ·decide
         ·apply whole_seq
          ·apply blk_list (i := 9)
           ·rfl
           ·rfl
           ·kernel_rfl
           ·kernel_rfl
           ·kernel_rfl
           ·apply get_flex
            ·rfl
            ·apply get_call
             ·exact rc_CompactArrayLen
             ·kernel_rfl
             ·rfl
            ·apply get_call
             ·exact rc_ArrayLen
             ·kernel_rfl
             ·rfl
            ·rfl
           ·apply ok_rule
            ·exact rd_Ok
            ·exact rd_Complete
            ·kernel_rfl
            ·kernel_rfl
            ·rfl
           ·apply cut_rule (sz := 4) (e := 180)
            ·kernel_rfl
            ·rfl
           ·apply grow_rule (e := 180) (zs := #[.string (str []), .pointer none, .slice none 0 0, .map none])
            ·kernel_rfl
            ·kernel_rfl
            ·kernel_rfl
            ·rfl
           ·apply loop_rule
            ·apply elem_struct (σ := sJoinGroupResponse_1) (e := 180) (z := from' #[.string (str []), .pointer none, .slice none 0 0, .map none] 0) (z0 := (Lay.zeroL sJoinGroupResponse_1.lay, []))
             ·apply blk_seq
              ·apply blk_seq
               ·apply blk_nop
                rfl
               ·apply blk_get (i := 0)
                ·apply get_uns
                 ·apply get_flex
                  ·rfl
                  ·apply get_call
                   ·exact rc_UnsafeCompactString
                   ·kernel_rfl
                   ·rfl
                  ·apply get_call
                   ·exact rc_UnsafeString
                   ·kernel_rfl
                   ·rfl
                  ·rfl
                 ·apply get_flex
                  ·rfl
                  ·apply get_call
                   ·exact rc_CompactString
                   ·kernel_rfl
                   ·rfl
                  ·apply get_call
                   ·exact rc_String
                   ·kernel_rfl
                   ·rfl
                  ·rfl
                 ·rfl
                ·apply blkV_put
                 ·rfl
                 ·rfl
                 ·kernel_rfl
                 ·kernel_rfl
                 ·rfl
                ·rfl
               ·decide
              ·apply blk_seq
               ·apply blk_if
                ·apply tst_geq
                 rfl
                ·apply blk_seq
                 ·apply blk_nop
                  rfl
                 ·apply blk_get (i := 1)
                  ·apply get_flex
                   ·rfl
                   ·apply get_uns
                    ·apply get_call
                     ·exact rc_UnsafeCompactNullableString
                     ·kernel_rfl
                     ·rfl
                    ·apply get_call
                     ·exact rc_CompactNullableString
                     ·kernel_rfl
                     ·rfl
                    ·rfl
                   ·apply get_uns
                    ·apply get_call
                     ·exact rc_UnsafeNullableString
                     ·kernel_rfl
                     ·rfl
                    ·apply get_call
                     ·exact rc_NullableString
                     ·kernel_rfl
                     ·rfl
                    ·rfl
                   ·rfl
                  ·apply blkV_put
                   ·rfl
                   ·rfl
                   ·kernel_rfl
                   ·kernel_rfl
                   ·rfl
                  ·rfl
                 ·decide
                ·exact blk_skip
                ·rfl
               ·apply blk_seq
                ·apply blk_seq
                 ·apply blk_nop
                  rfl
                 ·apply blk_get (i := 2)
                  ·apply get_flex
                   ·rfl
                   ·apply get_call
                    ·exact rc_CompactBytes
                    ·kernel_rfl
                    ·rfl
                   ·apply get_call
                    ·exact rc_Bytes
                    ·kernel_rfl
                    ·rfl
                   ·rfl
                  ·apply blkV_put
                   ·rfl
                   ·rfl
                   ·kernel_rfl
                   ·kernel_rfl
                   ·rfl
                  ·rfl
                 ·decide
                ·apply blk_if
                 ·apply tst_flex
                  ·rfl
                  ·rfl
                 ·apply blk_tag
                  ·exact readTags_spec
                  ·kernel_rfl
                  ·rfl
                  ·kernel_rfl
                  ·kernel_rfl
                  ·rfl
                  ·rfl
                 ·exact blk_skip
                 ·rfl
                ·decide
               ·decide
              ·decide
             ·exact d_sJoinGroupResponse_1
             ·kernel_rfl
             ·kernel_rfl
             ·rfl
             ·rfl
             ·exact zero_ok (lay := sJoinGroupResponse_1.lay) (tg := sJoinGroupResponse_1.tg) (z := from' #[.string (str []), .pointer none, .slice none 0 0, .map none] 0) (by repeat' (first | rfl | trivial | apply And.intro)) (by rfl)
             ·rfl
            ·rfl
           ·rfl
           ·rfl
           ·rfl
          ·apply whole_seq
           ·apply blk_if
            ·apply tst_flex
             ·rfl
             ·rfl
            ·apply blk_tag
             ·exact readTags_spec
             ·kernel_rfl
             ·rfl
             ·kernel_rfl
             ·kernel_rfl
             ·rfl
             ·rfl
            ·exact blk_skip
            ·rfl
           ·apply whole_end
            ·exact rd_Complete
            ·kernel_rfl
            ·rfl
           ·rfl
          ·rfl
         ·rfl
        ·rfl
       ·rfl
      ·rfl
     ·rfl
    ·rfl
   ·rfl
  ·rfl
 ·refine wr_read (zs := [.num 0, .num 0, .num (-1), .ofOpt none, .ofOpt none, .oct [], .ofBool false, .oct [], .nul]) ?_ (fun ver => rfl)
  refine Zb (z := .num 0) ?_ (by kernel_rfl) ?_
  ·repeat' (first | (with_reducible refine piece_nop ?_) | (with_reducible refine piece_if ?_ ?_; rotate_left; · (refine has_if (by decide) ?_; intro v l h; simp [Zk, Zf] at h ⊢ <;> omega)))
   refine piece_put ?_ (FD.alw (by decide) (by intro v l h; simp [Zk, Zf] at h ⊢ <;> omega))
   repeat' (first | (with_reducible exact rdw_int32) | (with_reducible refine rdw_stiff rdw_int32 ?_; intro v l h; cases l with | false => rfl | true => (exfalso; simp [Zk, Zf] at h <;> omega)) | (with_reducible refine rdw_when ?_ ?_))
  refine Zb (z := .num 0) ?_ (by kernel_rfl) ?_
  ·repeat' (first | (with_reducible refine piece_nop ?_) | (with_reducible refine piece_if ?_ ?_; rotate_left; · (refine has_if (by decide) ?_; intro v l h; simp [Zk, Zf] at h ⊢ <;> omega)))
   refine piece_put ?_ (FD.alw (by decide) (by intro v l h; simp [Zk, Zf] at h ⊢ <;> omega))
   repeat' (first | (with_reducible exact rdw_int16) | (with_reducible refine rdw_stiff rdw_int16 ?_; intro v l h; cases l with | false => rfl | true => (exfalso; simp [Zk, Zf] at h <;> omega)) | (with_reducible refine rdw_when ?_ ?_))
  refine Zb (z := .num (-1)) ?_ (by kernel_rfl) ?_
  ·repeat' (first | (with_reducible refine piece_nop ?_) | (with_reducible refine piece_if ?_ ?_; rotate_left; · (refine has_if (by decide) ?_; intro v l h; simp [Zk, Zf] at h ⊢ <;> omega)))
   refine piece_put ?_ (FD.alw (by decide) (by intro v l h; simp [Zk, Zf] at h ⊢ <;> omega))
   repeat' (first | (with_reducible exact rdw_int32) | (with_reducible refine rdw_stiff rdw_int32 ?_; intro v l h; cases l with | false => rfl | true => (exfalso; simp [Zk, Zf] at h <;> omega)) | (with_reducible refine rdw_when ?_ ?_))
  refine Zb (z := .ofOpt none) ?_ (by kernel_rfl) ?_
  ·repeat' (first | (with_reducible refine piece_nop ?_) | (with_reducible refine piece_if ?_ ?_; rotate_left; · (refine has_if (by decide) ?_; intro v l h; simp [Zk, Zf] at h ⊢ <;> omega)))
   refine piece_put ?_ (FD.alw (by decide) (by intro v l h; simp [Zk, Zf] at h ⊢ <;> omega))
   repeat' (first | (with_reducible exact rdw_text) | (with_reducible exact rdw_ntext) | (with_reducible refine rdw_stiff rdw_text ?_; intro v l h; cases l with | false => rfl | true => (exfalso; simp [Zk, Zf] at h <;> omega)) | (with_reducible refine rdw_stiff rdw_ntext ?_; intro v l h; cases l with | false => rfl | true => (exfalso; simp [Zk, Zf] at h <;> omega)) | (with_reducible refine rdw_early rdw_text ?_; intro v l h; simp [Zk, Zf] at h ⊢ <;> omega) | (with_reducible refine rdw_early (rdw_stiff rdw_text ?_) ?_; · intro v l h; cases l with | false => rfl | true => (exfalso; simp [Zk, Zf] at h <;> omega); · intro v l h; simp [Zk, Zf] at h ⊢ <;> omega) | (with_reducible refine rdw_when ?_ ?_))
  refine Zb (z := .ofOpt none) ?_ (by kernel_rfl) ?_
  ·repeat' (first | (with_reducible refine piece_nop ?_) | (with_reducible refine piece_if ?_ ?_; rotate_left; · (refine has_if (by decide) ?_; intro v l h; simp [Zk, Zf] at h ⊢ <;> omega)))
   refine piece_put ?_ (FD.alw (by decide) (by intro v l h; simp [Zk, Zf] at h ⊢ <;> omega))
   repeat' (first | (with_reducible exact rdw_text) | (with_reducible exact rdw_ntext) | (with_reducible refine rdw_stiff rdw_text ?_; intro v l h; cases l with | false => rfl | true => (exfalso; simp [Zk, Zf] at h <;> omega)) | (with_reducible refine rdw_stiff rdw_ntext ?_; intro v l h; cases l with | false => rfl | true => (exfalso; simp [Zk, Zf] at h <;> omega)) | (with_reducible refine rdw_early rdw_text ?_; intro v l h; simp [Zk, Zf] at h ⊢ <;> omega) | (with_reducible refine rdw_early (rdw_stiff rdw_text ?_) ?_; · intro v l h; cases l with | false => rfl | true => (exfalso; simp [Zk, Zf] at h <;> omega); · intro v l h; simp [Zk, Zf] at h ⊢ <;> omega) | (with_reducible refine rdw_when ?_ ?_))
  refine Zb (z := .oct []) ?_ (by kernel_rfl) ?_
  ·repeat' (first | (with_reducible refine piece_nop ?_) | (with_reducible refine piece_if ?_ ?_; rotate_left; · (refine has_if (by decide) ?_; intro v l h; simp [Zk, Zf] at h ⊢ <;> omega)))
   refine piece_put ?_ (FD.alw (by decide) (by intro v l h; simp [Zk, Zf] at h ⊢ <;> omega))
   repeat' (first | (with_reducible exact rdw_text) | (with_reducible exact rdw_ntext) | (with_reducible refine rdw_stiff rdw_text ?_; intro v l h; cases l with | false => rfl | true => (exfalso; simp [Zk, Zf] at h <;> omega)) | (with_reducible refine rdw_stiff rdw_ntext ?_; intro v l h; cases l with | false => rfl | true => (exfalso; simp [Zk, Zf] at h <;> omega)) | (with_reducible refine rdw_when ?_ ?_))
  refine Zb (z := .ofBool false) ?_ (by kernel_rfl) ?_
  ·repeat' (first | (with_reducible refine piece_nop ?_) | (with_reducible refine piece_if ?_ ?_; rotate_left; · (refine has_if (by decide) ?_; intro v l h; simp [Zk, Zf] at h ⊢ <;> omega)))
   refine piece_put ?_ (FD.alw (by decide) (by intro v l h; simp [Zk, Zf] at h ⊢ <;> omega))
   repeat' (first | (with_reducible exact rdw_bool) | (with_reducible refine rdw_stiff rdw_bool ?_; intro v l h; cases l with | false => rfl | true => (exfalso; simp [Zk, Zf] at h <;> omega)) | (with_reducible refine rdw_when ?_ ?_))
  refine Zb (z := .oct []) ?_ (by kernel_rfl) ?_
  ·repeat' (first | (with_reducible refine piece_nop ?_) | (with_reducible refine piece_if ?_ ?_; rotate_left; · (refine has_if (by decide) ?_; intro v l h; simp [Zk, Zf] at h ⊢ <;> omega)))
   refine piece_put ?_ (FD.alw (by decide) (by intro v l h; simp [Zk, Zf] at h ⊢ <;> omega))
   repeat' (first | (with_reducible exact rdw_text) | (with_reducible exact rdw_ntext) | (with_reducible refine rdw_stiff rdw_text ?_; intro v l h; cases l with | false => rfl | true => (exfalso; simp [Zk, Zf] at h <;> omega)) | (with_reducible refine rdw_stiff rdw_ntext ?_; intro v l h; cases l with | false => rfl | true => (exfalso; simp [Zk, Zf] at h <;> omega)) | (with_reducible refine rdw_when ?_ ?_))
  refine Zb (z := .nul) ?_ (by kernel_rfl) ?_
  ·repeat' (first | (with_reducible refine piece_nop ?_) | (with_reducible refine piece_if ?_ ?_; rotate_left; · (refine has_if (by decide) ?_; intro v l h; simp [Zk, Zf] at h ⊢ <;> omega)))
   refine piece_list ?_ ?_ (FD.alw (by decide) (by intro v l h; simp [Zk, Zf] at h ⊢ <;> omega)) ?_
   ·first | exact cnt_flex | exact cnt_stiff (by intro v l h; cases l with | false => rfl | true => (exfalso; simp [Zk, Zf] at h <;> omega))
   ·refine el_struct (zs := [.oct [], .ofOpt none, .octs [] true]) ?_ (by intro v l h; simp [Zk, Zf] at h ⊢ <;> omega) (by decide)
    refine Zb (z := .oct []) ?_ (by kernel_rfl) ?_
    ·repeat' (first | (with_reducible refine piece_nop ?_) | (with_reducible refine piece_if ?_ ?_; rotate_left; · (refine has_if (by decide) ?_; intro v l h; simp [Zk, Zf] at h ⊢ <;> omega)))
     refine piece_put ?_ (FD.alw (by decide) (by intro v l h; simp [Zk, Zf] at h ⊢ <;> omega))
     repeat' (first | (with_reducible exact rdw_text) | (with_reducible exact rdw_ntext) | (with_reducible refine rdw_stiff rdw_text ?_; intro v l h; cases l with | false => rfl | true => (exfalso; simp [Zk, Zf] at h <;> omega)) | (with_reducible refine rdw_stiff rdw_ntext ?_; intro v l h; cases l with | false => rfl | true => (exfalso; simp [Zk, Zf] at h <;> omega)) | (with_reducible refine rdw_when ?_ ?_))
    refine Zb (z := .ofOpt none) ?_ (by kernel_rfl) ?_
    ·repeat' (first | (with_reducible refine piece_nop ?_) | (with_reducible refine piece_if ?_ ?_; rotate_left; · (refine has_if (by decide) ?_; intro v l h; simp [Zk, Zf] at h ⊢ <;> omega)))
     refine piece_put ?_ (FD.alw (by decide) (by intro v l h; simp [Zk, Zf] at h ⊢ <;> omega))
     repeat' (first | (with_reducible exact rdw_text) | (with_reducible exact rdw_ntext) | (with_reducible refine rdw_stiff rdw_text ?_; intro v l h; cases l with | false => rfl | true => (exfalso; simp [Zk, Zf] at h <;> omega)) | (with_reducible refine rdw_stiff rdw_ntext ?_; intro v l h; cases l with | false => rfl | true => (exfalso; simp [Zk, Zf] at h <;> omega)) | (with_reducible refine rdw_early rdw_text ?_; intro v l h; simp [Zk, Zf] at h ⊢ <;> omega) | (with_reducible refine rdw_early (rdw_stiff rdw_text ?_) ?_; · intro v l h; cases l with | false => rfl | true => (exfalso; simp [Zk, Zf] at h <;> omega); · intro v l h; simp [Zk, Zf] at h ⊢ <;> omega) | (with_reducible refine rdw_when ?_ ?_))
    refine Zb (z := .octs [] true) ?_ (by kernel_rfl) ?_
    ·repeat' (first | (with_reducible refine piece_nop ?_) | (with_reducible refine piece_if ?_ ?_; rotate_left; · (refine has_if (by decide) ?_; intro v l h; simp [Zk, Zf] at h ⊢ <;> omega)))
     refine piece_put ?_ (FD.alw (by decide) (by intro v l h; simp [Zk, Zf] at h ⊢ <;> omega))
     repeat' (first | (with_reducible exact rdw_bytes) | (with_reducible exact rdw_nbytes) | (with_reducible refine rdw_stiff rdw_bytes ?_; intro v l h; cases l with | false => rfl | true => (exfalso; simp [Zk, Zf] at h <;> omega)) | (with_reducible refine rdw_stiff rdw_nbytes ?_; intro v l h; cases l with | false => rfl | true => (exfalso; simp [Zk, Zf] at h <;> omega)) | (with_reducible refine rdw_when ?_ ?_))
    first | exact chain_tags' (by intro v l h; rfl) | exact chain_tags (by intro v l h; rfl)
   ·intro v l h; simp [Zk, Zf] at h ⊢ <;> omega
  first | exact chain_tags' (by intro v l h; rfl) | exact chain_tags (by intro v l h; rfl)
end Go.Proofs.YtpecdnfmlodmaaaGreatDoorR
set_option linter.unusedSimpArgs false
set_option linter.unusedVariables false
namespace Go.Proofs.YtpecdnfmlodmaaaGreatDoorR
open Go Go.RowKit
theorem new_JoinGroupResponse : NewC Tryz.prog 92 sJoinGroupResponse v_JoinGroupResponse := by
 refine new_rule (z := .agg #[.int .i16 0, .int .i32 0, .int .i16 0, .int .i32 0, .pointer none, .pointer none, .string (str []), .bool false, .string (str []), .slice none 0 0, .map none]) Tryz.func92 rfl rfl rfl (by kernel_rfl) (by decide) (fun w => ?_) d_sJoinGroupResponse (by kernel_rfl)
 exact zero_ok (lay := sJoinGroupResponse.lay) (tg := sJoinGroupResponse.tg) (z := from' #[.int .i16 0, .int .i32 0, .int .i16 0, .int .i32 0, .pointer none, .pointer none, .string (str []), .bool false, .string (str []), .slice none 0 0, .map none] 0) (by repeat' (first | rfl | trivial | apply And.intro)) (by rfl) w _
theorem set_JoinGroupResponse : SetC Tryz.prog 95 sJoinGroupResponse :=
 set_rule Tryz.func95 rfl rfl rfl (by kernel_rfl) (by kernel_rfl) rfl rfl rfl (by decide)
set_option maxRecDepth 100000 in
theorem tell_JoinGroupResponse_t151 : ∃ G, TellC Tryz.prog 151 sJoinGroupResponse_1 G /\ PresG ([.mk 8 0 (-1) (-1) (-1) 0 0 [], .mk 8 5 (-1) 5 (-1) 0 0 [], .mk 9 0 (-1) (-1) (-1) 0 0 []]) G 0 := by
 apply Exists.intro
 constructor
 ·apply tell_plain (N := 40) (n := 3) (hf := Tryz.func151) (hN := rfl) (hres := rfl) (hT := tellT) (hok := by rfl) (h4 := by decide) (hne := by decide) (hn := by decide) (hbody := rfl)
  apply twhole_seq
  ·apply tell_str (i := 0) (o := 0) (eb := 5) tellT
   ·kernel_rfl
   ·kernel_rfl
   ·kernel_rfl
   ·rfl
   ·rfl
   ·decide
  ·apply twhole_seq
   ·apply tell_leaf (i := 1) (o := 1) tellT (leaf_text tellT)
    ·kernel_rfl
    ·rfl
    ·kernel_rfl
    ·kernel_rfl
    ·rfl
    ·rfl
    ·decide
   ·apply twhole_seq
    ·apply tell_leaf (i := 2) (o := 2) tellT (leaf_octets tellT)
     ·kernel_rfl
     ·rfl
     ·kernel_rfl
     ·kernel_rfl
     ·rfl
     ·rfl
     ·decide
    ·exact twhole_tags tellT tagT rfl (by kernel_rfl) (by rfl) (by kernel_rfl) (by kernel_rfl) (by kernel_rfl) each_spec sorted_spec (clo_rule Tryz.func227 rfl rfl tagT rfl)
 ·refine pres_leaf ?_
  refine pres_leaf ?_
  refine pres_leaf ?_
  exact pres_nil
set_option maxRecDepth 100000 in
theorem tell_JoinGroupResponse : ∃ G, TellC Tryz.prog 98 sJoinGroupResponse G /\ LeafG (Zg) G 1 := by
 obtain ⟨GJoinGroupResponse_t151, hGJoinGroupResponse_t151, hPJoinGroupResponse_t151⟩ := tell_JoinGroupResponse_t151
 apply Exists.intro
 constructor
 ·apply tell_plain (N := 141) (n := 9) (hf := Tryz.func98) (hN := rfl) (hres := rfl) (hT := tellT) (hok := by rfl) (h4 := by decide) (hne := by decide) (hn := by decide) (hbody := rfl)
  apply twhole_seq
  ·apply tell_num (i := 1) (o := 1) (kd := .i32) tellT
   ·kernel_rfl
   ·kernel_rfl
   ·exact kd_i32
   ·kernel_rfl
   ·kernel_rfl
   ·rfl
   ·rfl
   ·decide
  ·apply twhole_seq
   ·apply tell_num (i := 2) (o := 2) (kd := .i16) tellT
    ·kernel_rfl
    ·kernel_rfl
    ·exact kd_i16
    ·kernel_rfl
    ·kernel_rfl
    ·rfl
    ·rfl
    ·decide
   ·apply twhole_seq
    ·apply tell_num (i := 3) (o := 3) (kd := .i32) tellT
     ·kernel_rfl
     ·kernel_rfl
     ·exact kd_i32
     ·kernel_rfl
     ·kernel_rfl
     ·rfl
     ·rfl
     ·decide
    ·apply twhole_seq
     ·apply tell_leaf (i := 4) (o := 4) tellT (leaf_text tellT)
      ·kernel_rfl
      ·rfl
      ·kernel_rfl
      ·kernel_rfl
      ·rfl
      ·rfl
      ·decide
     ·apply twhole_seq
      ·apply tell_leaf (i := 5) (o := 5) tellT (leaf_text tellT)
       ·kernel_rfl
       ·rfl
       ·kernel_rfl
       ·kernel_rfl
       ·rfl
       ·rfl
       ·decide
      ·apply twhole_seq
       ·apply tell_str (i := 6) (o := 6) (eb := 5) tellT
        ·kernel_rfl
        ·kernel_rfl
        ·kernel_rfl
        ·rfl
        ·rfl
        ·decide
       ·apply twhole_seq
        ·apply tell_leaf (i := 7) (o := 7) tellT (leaf_bool tellT)
         ·kernel_rfl
         ·rfl
         ·kernel_rfl
         ·kernel_rfl
         ·rfl
         ·rfl
         ·decide
        ·apply twhole_seq
         ·apply tell_str (i := 8) (o := 8) (eb := 5) tellT
          ·kernel_rfl
          ·kernel_rfl
          ·kernel_rfl
          ·rfl
          ·rfl
          ·decide
         ·apply twhole_list (i := 9) (E := (structT GJoinGroupResponse_t151))
          ·apply nul_list (i := 9) (o := 9) tellT
           ·kernel_rfl
           ·kernel_rfl
           ·kernel_rfl
           ·kernel_rfl
           ·kernel_rfl
           ·rfl
           ·rfl
           ·decide
           ·decide
          ·apply loop_list (i := 9) (o := 9)
           ·apply app0_call (es := 180) tellT
            ·exact hGJoinGroupResponse_t151
            ·kernel_rfl
            ·rfl
            ·rfl
            ·kernel_rfl
            ·kernel_rfl
            ·kernel_rfl
            ·rfl
            ·kernel_rfl
            ·rfl
            ·decide
            ·decide
           ·apply app1_call (es := 180) tellT
            ·exact hGJoinGroupResponse_t151
            ·kernel_rfl
            ·rfl
            ·rfl
            ·kernel_rfl
            ·kernel_rfl
            ·kernel_rfl
            ·rfl
            ·kernel_rfl
            ·rfl
            ·decide
            ·decide
           ·rfl
           ·exact ⟨.bool false, by kernel_rfl, rfl⟩
           ·kernel_rfl
           ·kernel_rfl
           ·kernel_rfl
           ·kernel_rfl
           ·kernel_rfl
           ·rfl
           ·rfl
           ·rfl
          ·exact twhole_tags tellT tagT rfl (by kernel_rfl) (by rfl) (by kernel_rfl) (by kernel_rfl) (by kernel_rfl) each_spec sorted_spec (clo_rule Tryz.func152 rfl rfl tagT rfl)
 ·refine leafG_leaf ?_
  refine leafG_leaf ?_
  refine leafG_leaf ?_
  refine leafG_leaf ?_
  refine leafG_leaf ?_
  refine leafG_leaf ?_
  refine leafG_leaf ?_
  refine leafG_leaf ?_
  refine leafG_cons (E := listT (structT GJoinGroupResponse_t151)) (by decide) ?_
  exact leafG_nil
abbrev D_JoinGroupResponse : SV -> SV := fun v => ((v).1.set 3 (.num (-1)), (v).2)
theorem doors_JoinGroupResponse : ∃ ft v1 G, DoorC Tryz.prog 38 Zf ft v1 (fun v => G (D_JoinGroupResponse v)) /\ WrI Zk ft v1 Zg /\ LeafG Zg G 1 := by
 obtain ⟨ft, hr, hw⟩ := read_JoinGroupResponse
 obtain ⟨G, hG, hP⟩ := tell_JoinGroupResponse
 refine ⟨ft, v_JoinGroupResponse, G, ?_, hw, hP⟩
 exact doord_rule (d := D_JoinGroupResponse) Tryz.func38 rfl rfl tellT rfl (by kernel_rfl) (by kernel_rfl) (by kernel_rfl) (by kernel_rfl) (by kernel_rfl) (by kernel_rfl) (by kernel_rfl) (eb := 5) (by kernel_rfl) (by kernel_rfl) new_JoinGroupResponse set_JoinGroupResponse (rf_rule Tryz.func96 rfl rfl rfl hr (by kernel_rfl)) hG d_sJoinGroupResponse (fun _ => rfl) (by decide)
end Go.Proofs.YtpecdnfmlodmaaaGreatDoorR
set_option linter.unusedSimpArgs false
set_option linter.unusedVariables false
namespace Go.Proofs.YtpecdnfmlodmaaaGreatDoorR
open Go Go.RowKit
theorem max_JoinGroupResponse (w : World) : Calls Tryz.prog 36 #[] w fun e w' => e = .returned (.int .i64 (9 : Int)) /\ Mod none' w w' := by
 refine calls_of_wp Tryz.func36 rfl ?_
 refine wp_act (fun a : Act => a.tmps.size = 4 /\ a.defers = []) ⟨rfl, rfl⟩ ?_
 rintro a ⟨aN, ad⟩
 refine wp_seq (wp_region_lit (Zv rfl Zi (wpList_nil ?_)))
 refine wp_seq (wp_region_lit (wpl_call rfl (Zy (by kernel_rfl) rfl) (R := fun e w' => e = .returned (.pointer (some ⟨w.heap.size, 0, none⟩)) /\ Mod none' w w' /\ w.heap.size < w'.heap.size /\ Cur sJoinGroupResponse none' w.heap.size 0 v_JoinGroupResponse w') (by simpa using new_JoinGroupResponse w) ?_))
 rintro e w1 ⟨rfl, m1, _, _⟩
 refine ⟨_, rfl, wpl_call rfl (Zy (by kernel_rfl) rfl) (R := fun e w' => e = .returned (.int .i16 9) /\ w1 = w') ?_ ?_⟩
 ·go_enter Tryz.func93, Tryz.ntmps93
  go_wp2
  go_ret
  exact ⟨rfl, rfl⟩
 rintro e w2 ⟨rfl, rfl⟩
 refine ⟨_, rfl, Zv rfl (x_convInt (n := 9) (k := .i16) (k' := .i64) (by kernel_rfl) (by kernel_rfl) ?_) (Zv rfl Zi (wpList_nil ?_))⟩
 ·simp (disch := first | omega | simp only [Zs]; omega) only [Zo, Ze, Zn, Zq]
 refine wp_act (c := .ret) (fun a : Act => Act.get a 0 = .int .i64 9 /\ a.defers = []) ⟨?_, ?_⟩ ?_
 ·simp (disch := first | omega | simp only [Zs]; omega) only [Zo, Ze, Zn, Zq]
  rfl
 ·simp only [Zd]; exact ad
 rintro a9 ⟨z0, zd⟩
 exact wp_ret (bodyPost_ret (results_tmp rfl _ _ _) zd ⟨congrArg Ending.returned z0, m1⟩)
set_option maxHeartbeats 4000000 in
set_option maxRecDepth 100000 in
theorem spec_sJoinGroupResponseMember (w : World) : Calls Tryz.prog 94 #[] w fun e w' => ∃ k, e = .returned (.slice (some ⟨k, 0, none⟩) 3 3) /\ Mod none' w w' /\ ∀ W, Mod (fun k => k < w.heap.size) w' W -> FdsI W (.slice (some ⟨k, 0, none⟩) 3 3) ([.mk 8 0 (-1) (-1) (-1) 0 0 [], .mk 8 5 (-1) 5 (-1) 0 0 [], .mk 9 0 (-1) (-1) (-1) 0 0 []]) := by
 go_enter Tryz.func94, Tryz.ntmps94
 go_wp2
 go_ret
 exact ⟨_, rfl, (Mod.refl w).alloc _, fun W hW => FdsI.of (fs := [.mk 8 0 (-1) (-1) (-1) 0 0 [], .mk 8 5 (-1) 5 (-1) 0 0 [], .mk 9 0 (-1) (-1) (-1) 0 0 []]) [.slice none 0 0, .slice none 0 0, .slice none 0 0] (hW.some (Zh w _) (Nat.not_lt.2 (Nat.le_refl _))) rfl (by decide) rfl ⟨FdsI.none' _, FdsI.none' _, FdsI.none' _, trivial⟩⟩
set_option maxHeartbeats 4000000 in
set_option maxRecDepth 100000 in
theorem spec_JoinGroupResponse (w : World) : Calls Tryz.prog 37 #[] w fun e w' => ∃ v, e = .returned (.agg #[v, .int .i64 6]) /\ Mod none' w w' /\ FdsI w' v Zg := by
 go_enter Tryz.func37, Tryz.ntmps37
 go_wp2_with (first | (go_at_call 94; refine (spec_sJoinGroupResponseMember _).mono ?_; rintro e w1 ⟨k1, rfl, hm1, hf1⟩; have hx1 : w1.heap[w.heap.size]? = some (.cells #[.slice none 0 0, .int .i64 0] 31 (0, 0)) := hm1.some (Zh w _) (fun f => f); have qa1 : w1.cell? ⟨w.heap.size, 0, none⟩ = some (.slice none 0 0) := (Zc hx1).trans rfl; have qb1 : w1.cell? ⟨w.heap.size, 1, none⟩ = some (.int .i64 0) := (Zc hx1).trans rfl; have qc1 : w1.frozen? ⟨w.heap.size, 0, none⟩ = false := (Zz hx1).trans rfl; have qd1 : w1.frozen? ⟨w.heap.size, 1, none⟩ = false := (Zz hx1).trans rfl; have qs1 : w.heap.size < w1.heap.size := lt_of_block hx1; have hb1 := Lib.hid hx1; clear hx1))
 obtain ⟨hA, hB, hM⟩ := spec_end (y0 := .slice (some ⟨w1.heap.size, 0, none⟩) 9 9) (y1 := .int .i64 6) (cells := #[.int .i64 3, .int .i64 2, .int .i64 (-1), .int .i64 (-1), .int .i64 (-1), .int .i64 0, .int .i64 0, .slice none 0 0, .int .i64 2, .int .i64 0, .int .i64 (-1), .int .i64 (-1), .int .i64 (-1), .int .i64 0, .int .i64 0, .slice none 0 0, .int .i64 3, .int .i64 0, .int .i64 (-1), .int .i64 (-1), .int .i64 (-1), .int .i64 (-1), .int .i64 0, .slice none 0 0, .int .i64 8, .int .i64 7, .int .i64 (-1), .int .i64 7, .int .i64 (-1), .int .i64 0, .int .i64 0, .slice none 0 0, .int .i64 8, .int .i64 0, .int .i64 (-1), .int .i64 7, .int .i64 (-1), .int .i64 0, .int .i64 0, .slice none 0 0, .int .i64 8, .int .i64 0, .int .i64 (-1), .int .i64 (-1), .int .i64 (-1), .int .i64 0, .int .i64 0, .slice none 0 0, .int .i64 0, .int .i64 9, .int .i64 (-1), .int .i64 (-1), .int .i64 (-1), .int .i64 0, .int .i64 0, .slice none 0 0, .int .i64 8, .int .i64 0, .int .i64 (-1), .int .i64 (-1), .int .i64 (-1), .int .i64 0, .int .i64 0, .slice none 0 0, .int .i64 11, .int .i64 0, .int .i64 (-1), .int .i64 (-1), .int .i64 (-1), .int .i64 0, .int .i64 10, .slice (some ⟨k1, 0, none⟩) 3 3]) (T := 56) hb1.out
 refine bodyPost_ret (results_cellN rfl (b := w.heap.size) (o := 0) (cs := [.slice (some ⟨w1.heap.size, 0, none⟩) 9 9, .int .i64 6]) rfl (by kernel_rfl) (fun j u hu => by rw [Zc hA, Nat.zero_add]; simpa using hu)) rfl
  ⟨_, rfl, Mod.trans' (((Mod.refl w).alloc _).trans hm1) hM (fun _ _ f => f) (fun j hj e => by have : j = w.heap.size := e; omega), FdsI.of (fs := Zg) [.slice none 0 0, .slice none 0 0, .slice none 0 0, .slice none 0 0, .slice none 0 0, .slice none 0 0, .slice none 0 0, .slice none 0 0, .slice (some ⟨k1, 0, none⟩) 3 3] hB rfl (by decide) rfl ⟨FdsI.none' _, FdsI.none' _, FdsI.none' _, FdsI.none' _, FdsI.none' _, FdsI.none' _, FdsI.none' _, FdsI.none' _, hf1 _ (Mod.trans' (Mod.refl (S := none') w1) hM (fun _ _ f => f.elim) (fun i _ e => by have e1 : i = w.heap.size := e; show i < (World.alloc _ _).heap.size; simp; omega)), trivial⟩⟩
theorem head_JoinGroupResponse {f : FD} {r fs : List FD} {ver : Int} {fl : Bool} {t : Tr} (hf : fs = f :: r) (h : (decide (f.tag < 0) && f.has ver) = true) (hk : (leafK f.kind || decide (f.kind = 11)) = true) : 1 <= (fieldsW fs 0 ver fl t).length := by
 subst hf
 simp only [fieldsW, List.length_append]
 rw [if_pos h]
 have := fieldW_pos (f := f) (ver := ver) (fl := fl) (t := t.L.getD 0 .zero) hk
 omega
set_option maxHeartbeats 1000000 in
set_option maxRecDepth 20000 in
theorem law_JoinGroupResponse {w : World} {n : Int} {ct : Array Value} {t : Tr} {ev : Value} (hn : 0 <= n /\ n <= 255) (hE : ErrIs w ev) (hev : ∃ tx vx, ev = .iface tx vx) (hct : ct.size = 5) (ht : TreeI w (from' ct 0) t) (hlen : ∀ ver fl, (partW Zg ver fl t).length <= 4294967295) :
    Calls Tryz.prog 9 #[.int .u8 n, .agg ct] w fun e w' => e = .returned (.bool true) /\ Mod none' w w' := by
  obtain ⟨ft, V0, G, hd1, hwr, hlg⟩ := doors_JoinGroupResponse
  refine calls_of_wp Tryz.func9 rfl ?_
  show Code.wp _ _ _ { tmps := (#[.int .u8 n, .agg ct] : Array Value) ++ Array.replicate (37 - (#[.int .u8 n, .agg ct] : Array Value).size) undef, defers := [] } w
  refine wp_act (fun a : Act => Act.get a 0 = .int .u8 n /\ Act.get a 1 = .agg ct /\ a.tmps.size = 37 /\ a.defers = []) ⟨?_, ?_, ?_, rfl⟩ ?_
  · rw [Zj _ _ _ (by simp)]; rfl
  · rw [Zj _ _ _ (by simp)]; rfl
  · simp
  rintro a ⟨a0, a1, aN, ad⟩
  refine wp_seq (wp_region_lit (Zv rfl x_box (Zv rfl Zi (wpList_nil ?_))))
  rw [show (a.eval (.tmp 1)).cells = ct from by rw [Ze, a1]; rfl]
  have b3 := Zh w (.cells ct 26)
  have m0 : Mod none' w (w.alloc (.cells ct 26)) := (Mod.refl w).alloc _
  generalize w.alloc (.cells ct 26) = w0 at *
  obtain ⟨x3, hx3⟩ : ∃ x, x = w.heap.size := ⟨_, rfl⟩
  rw [<- hx3] at b3 ⊢
  refine wp_act (fun a : Act => Act.get a 0 = .int .u8 n /\ Act.get a 3 = .pointer (some ⟨x3, 0, none⟩) /\ a.tmps.size = 37 /\ a.defers = []) ⟨?_, ?_, ?_, ?_⟩ ?_
  · simp (disch := first | omega | simp only [Zs]; omega) only [Zo, Ze, Zn, Zq, a0]
  · simp (disch := first | omega | simp only [Zs]; omega) only [Zo, Ze, Zn, Zq]
  · simp only [Zs]; exact aN
  · simp only [Zd]; exact ad
  clear a0 a1 aN ad
  rintro a ⟨a0, a3, aN, ad⟩
  refine wp_seq (wp_seq (wp_region_lit (Zv rfl (x_loadN (cs := ct.toList) (b := x3) (o := 0) (by rw [Array.length_toList, hct]; kernel_rfl) ?_ ?_) (wpl_call rfl (Zy (by kernel_rfl) rfl) (R := SomeBool w0) ?_ ?_))))
  · simp (disch := first | omega | simp only [Zs]; omega) only [Zo, Ze, Zn, Zq, a3]
  · intro j u hu
    rw [Zc b3, Nat.zero_add]; simpa using hu
  · rw [show ∀ a : Act, (#[Operand.tmp 10] : Array Operand).map a.eval = #[Act.get a 10] from fun a => by simp [Ze]]
    simp (disch := first | omega | simp only [Zs]; omega) only [Zo, Ze, Zn, Zq, Array.toArray_toList]
    exact zz1_c hct (ht.mod m0)
  rintro e w1 ⟨b, rfl, m1⟩
  refine ⟨_, rfl, Zv rfl (x_notV (b := b) (c := !b) ?_ rfl) (wpList_nil ?_)⟩
  · simp (disch := first | omega | simp only [Zs]; omega) only [Zo, Ze, Zn, Zq]
  cases b with
  | false =>
    refine wp_cond_true ?_ (wp_seq (wp_region_lit (Zv rfl Zi (wpList_nil (wp_ret ?_)))))
    · simp (disch := first | omega | simp only [Zs]; omega) only [Zo, Ze, Zn, Zq]
      rfl
    · simp only [Exit.then]
      refine bodyPost_ret (results_tmp rfl _ _ _) ?_ ⟨?_, m0.trans m1⟩
      · simp only [Zd]; exact ad
      · rw [show ∀ (a : Act), a.tmps.getD 4 undef = Act.get a 4 from fun _ => rfl]
        simp (disch := first | omega | simp only [Zs]; omega) only [Zo, Ze, Zn, Zq]
        rfl
  | true =>
  refine wp_cond_false ?_ (wp_skip ?_)
  · simp (disch := first | omega | simp only [Zs]; omega) only [Zo, Ze, Zn, Zq]
    rfl
  refine wp_act (fun a : Act => Act.get a 0 = .int .u8 n /\ Act.get a 3 = .pointer (some ⟨x3, 0, none⟩) /\ a.tmps.size = 37 /\ a.defers = []) ⟨?_, ?_, ?_, ?_⟩ ?_
  · simp (disch := first | omega | simp only [Zs]; omega) only [Zo, Ze, Zn, Zq, a0]
  · simp (disch := first | omega | simp only [Zs]; omega) only [Zo, Ze, Zn, Zq, a3]
  · simp only [Zs]; exact aN
  · simp only [Zd]; exact ad
  clear a0 a3 aN ad
  rintro a ⟨a0, a3, aN, ad⟩
  refine wp_seq (wp_region_lit (wpl_call rfl (Zy (by kernel_rfl) rfl) (R := fun e w' => e = .returned (.int .i64 (9 : Int)) /\ Mod none' w1 w') (by simpa using max_JoinGroupResponse w1) ?_))
  rintro e w2 ⟨rfl, m2⟩
  refine ⟨_, rfl, Zv rfl Zi (wpList_nil ?_)⟩
  refine wp_seq (wp_seq (wp_region_lit (Zv rfl Zm (Zv rfl (x_lss (k := .i64) (m := 9) (n := 0) ?_ rfl) (wpList_nil ?_)))))
  · simp (disch := first | omega | simp only [Zs]; omega) only [Zo, Ze, Zn, Zq]
  refine wp_cond_false ?_ (wp_skip ?_)
  · simp (disch := first | omega | simp only [Zs]; omega) only [Zo, Ze, Zn, Zq]
    rfl
  refine wp_act (fun a : Act => Act.get a 0 = .int .u8 n /\ Act.get a 3 = .pointer (some ⟨x3, 0, none⟩) /\ Act.get a 5 = .int .i64 9 /\ a.tmps.size = 37 /\ a.defers = []) ⟨?_, ?_, ?_, ?_, ?_⟩ ?_
  · simp (disch := first | omega | simp only [Zs]; omega) only [Zo, Ze, Zn, Zq, a0]
  · simp (disch := first | omega | simp only [Zs]; omega) only [Zo, Ze, Zn, Zq, a3]
  · simp (disch := first | omega | simp only [Zs]; omega) only [Zo, Ze, Zn, Zq]
  · simp only [Zs]; exact aN
  · simp only [Zd]; exact ad
  clear a0 a3 aN ad
  rintro a ⟨a0, a3, a5, aN, ad⟩
  have hv : IntKind.i64.wrap ((9 : Int) + 1) ≠ 0 := by decide
  obtain ⟨k, hk⟩ : ∃ k, k = (IntKind.i64.wrap n).tmod (IntKind.i64.wrap ((9 : Int) + 1)) := ⟨_, rfl⟩
  have hver : ∀ w, Calls Tryz.prog 14 #[.int .u8 n, .int .i64 9] w fun e w' => e = .returned (.int .i64 k) /\ w = w' := fun w => by rw [hk]; exact version_spec hv w
  have hkr : 0 <= k /\ k <= 9 := by
    have e1 : IntKind.i64.wrap n = n := by rw [IntKind.wrap_i64]; omega
    have e2 : IntKind.i64.wrap ((9 : Int) + 1) = 9 + 1 := by decide
    rw [hk, e1, e2, Int.tmod_eq_emod_of_nonneg hn.1]
    omega
  clear hk
  have hk16 : IntKind.i16.wrap k = k := by
    simp only [IntKind.wrap, IntKind.bits, IntKind.signed]; simp; split <;> omega
  -- the fields
  refine wp_seq (wp_region_lit (wpl_call rfl (Zy (by kernel_rfl) rfl) (R := fun e w' => ∃ v, e = .returned (.agg #[v, .int .i64 6]) /\ Mod none' w2 w' /\ FdsI w' v Zg) (by simpa using spec_JoinGroupResponse w2) ?_))
  rintro e w3 ⟨v, rfl, m3, hfs⟩
  obtain ⟨fa, fcap, hfv⟩ := hfs.slice
  subst hfv
  refine ⟨_, rfl, Zv rfl Zm (Zv rfl Zm (wpl_call rfl (Zy (by kernel_rfl) rfl) (R := fun e w' => e = .returned (.int .i64 k) /\ w3 = w') ?_ ?_))⟩
  · rw [show ∀ a : Act, (#[Operand.tmp 17, Operand.tmp 18] : Array Operand).map a.eval = #[Act.get a 17, Act.get a 18] from fun a => by simp [Ze]]
    simp (disch := first | omega | simp only [Zs]; omega) only [Zo, Ze, Zn, Zq, a0, a5]
    exact hver w3
  rintro e w' ⟨rfl, rfl⟩
  refine ⟨_, rfl, Zv rfl (x_alloc zeroMsg) (wpl_skip rfl (x_storeN (cs := #[.slice fa Zg.length fcap, .int .i64 6]) (b := w3.heap.size) (o := 0) (by kernel_rfl) ?_ ?_ (by simp [Value.oneCell']) (there_new rfl)) (Zv rfl Zi (wpList_nil ?_)))⟩
  · simp (disch := first | omega | simp only [Zs]; omega) only [Zo, Ze, Zn, Zq]
  · simp (disch := first | omega | simp only [Zs]; omega) only [Zo, Ze, Zn, Zq]
  obtain ⟨b6, m4⟩ := store_new w3 31 (zc := (Value.agg #[.slice none 0 0, .int .i64 0]).cells) (cs := #[.slice fa Zg.length fcap, .int .i64 6]) rfl
  generalize (w3.alloc (.cells (Value.agg #[.slice none 0 0, .int .i64 0]).cells 31)).setCells w3.heap.size 0 (#[Value.slice fa Zg.length fcap, .int .i64 6] : Array Value).toList = w4 at *
  obtain ⟨x6, hx6⟩ : ∃ x, x = w3.heap.size := ⟨_, rfl⟩
  rw [<- hx6] at b6 ⊢
  refine wp_act (fun a : Act => Act.get a 3 = .pointer (some ⟨x3, 0, none⟩) /\ Act.get a 6 = .pointer (some ⟨x6, 0, none⟩) /\ Act.get a 7 = .int .i64 k /\ a.tmps.size = 37 /\ a.defers = []) ⟨?_, ?_, ?_, ?_, ?_⟩ ?_
  · simp (disch := first | omega | simp only [Zs]; omega) only [Zo, Ze, Zn, Zq, a3]
  · simp (disch := first | omega | simp only [Zs]; omega) only [Zo, Ze, Zn, Zq]
  · simp (disch := first | omega | simp only [Zs]; omega) only [Zo, Ze, Zn, Zq]
  · simp only [Zs]; exact aN
  · simp only [Zd]; exact ad
  clear a0 a3 a5 aN ad
  rintro a ⟨a3, a6, a7, aN, ad⟩
  have m04 := ((m1.trans m2).trans m3).trans m4
  have b3' := m04.some b3 (fun f => f)
  have ht4 := (ht.mod m0).mod m04
  have hfs4 := hfs.mod m4
  have hE4 := (hE.mod m0 (fun f => f)).mod m04 (fun f => f)
  -- written and told
  refine wp_seq (wp_region_lit (Zv rfl Zm (Zv rfl (x_loadN (cs := [.slice fa Zg.length fcap, .int .i64 6]) (b := x6) (o := 0) (by kernel_rfl) ?_ ?_) (Zv rfl Zm (Zv rfl (x_loadN (cs := ct.toList) (b := x3) (o := 0) (by rw [Array.length_toList, hct]; kernel_rfl) ?_ ?_)
    (wpl_call rfl (Zy (by kernel_rfl) rfl) (R := fun e w' => ∃ v, e = .returned v /\ Mod none' w4 w' /\ OwnB w' w4.heap.size v (partW Zg k (flexW 6 k) t)) ?_ ?_))))))
  · simp (disch := first | omega | simp only [Zs]; omega) only [Zo, Ze, Zn, Zq, a6]
  · intro j u hu
    rw [Zc b6, Nat.zero_add]; simpa using hu
  · simp (disch := first | omega | simp only [Zs]; omega) only [Zo, Ze, Zn, Zq, a3]
  · intro j u hu
    rw [Zc b3', Nat.zero_add]; simpa using hu
  · rw [show ∀ a : Act, (#[Operand.tmp 22, Operand.tmp 23, Operand.tmp 24] : Array Operand).map a.eval = #[Act.get a 22, Act.get a 23, Act.get a 24] from fun a => by simp [Ze]]
    simp (disch := first | omega | simp only [Zs]; omega) only [Zo, Ze, Zn, Zq, a7, Array.toArray_toList]
    exact write_c (by decide) hfs4 hct ht4 (hlen _ _)
  rintro e w5 ⟨bv, rfl, m5, hown⟩
  obtain ⟨bs, hbs⟩ : ∃ bs, bs = partW Zg k (flexW 6 k) t := ⟨_, rfl⟩
  have hlb : bs.length <= 4294967295 := hbs ▸ hlen _ _
  have hflx : Zf k = flexW 6 k := by
    simp only [Zf, flexW]
    first | rfl | (rw [Bool.eq_iff_iff]; simp)
  have hpos : 1 <= bs.length := by
    rw [hbs, partW, List.length_append]
    first
      | (have := fieldsW_pos (fl := flexW 6 k) (t := t) hkr.1 Zg 0 (by decide); omega)
      | (cases hfx : flexW 6 k with
         | true =>
           have := uvE_pos (unkW t.U).length
           simp only [if_true, tagsW, List.length_append]; omega
         | false =>
           have hk6 : k < 6 := by simp only [flexW] at hfx; simp at hfx; omega
           refine Nat.le_trans (head_JoinGroupResponse (fs := Zg) (fl := false) (t := t) rfl ?_ ?_) (Nat.le_add_right _ _)
           · simp [FD.tag, FD.has, FD.from_, FD.to]; exact ⟨decide_eq_true (by omega), decide_eq_true (by omega)⟩
           · decide)
  have hne : bs.isEmpty = false := by cases bs <;> simp at hpos ⊢
  obtain ⟨xs, hread, htold⟩ := hwr k (flexW 6 k) t [] ⟨hkr.1, hkr.2, hflx.symm⟩ ht.ok
  rw [List.append_nil, <- hbs] at hread
  have hd := hd1 k bv bs ev w5 (hE4.mod m5 (fun f => f)) hev (hbs ▸ hown.srcs) hlb (by rw [hk16, hflx, hne, hread]; exact fun h => by cases h)
  rw [hk16, hflx, hne, hread] at hd
  refine ⟨_, rfl, wpl_call rfl (Zy (by kernel_rfl) rfl) (R := fun e w' => ∃ cs ok, e = .returned (.tuple #[.agg cs, .bool ok]) /\ Mod none' w5 w' /\ cs.size = 5 /\ cs.all (·.oneCell') = true /\
      (ok = !false /\ (ok = true -> TreeR w' (From w5) (from' cs 0) (.part (G (D_JoinGroupResponse (.num k :: xs, if flexW 6 k = true then cutW (unkW t.U) else []))) (if flexW 6 k = true then cutW (unkW t.U) else []))))) ?_ ?_⟩
  · rw [show ∀ a : Act, (#[Operand.tmp 21, Operand.tmp 25] : Array Operand).map a.eval = #[Act.get a 21, Act.get a 25] from fun a => by simp [Ze]]
    simp (disch := first | omega | simp only [Zs]; omega) only [Zo, Ze, Zn, Zq, a7]
    exact hd
  rintro e w6 ⟨cx, ok, rfl, m6, hcx, hcx1, hok, htr⟩
  obtain rfl : ok = true := hok
  have htr := htr rfl
  refine ⟨_, rfl, Zv rfl Zm (Zv rfl (x_extract (vs := #[.agg cx, .bool true]) (i := 0) (v := .agg cx) ?_ rfl) (Zv rfl (x_extract (vs := #[.agg cx, .bool true]) (i := 1) (v := .bool true) ?_ rfl) (Zv rfl (x_alloc zeroTr) (wpl_skip rfl (x_storeN (cs := cx) (b := w6.heap.size) (o := 0) (by rw [hcx]; kernel_rfl) ?_ ?_ hcx1 (there_new (by rw [hcx]; rfl))) (Zv rfl Zi (wpList_nil ?_))))))⟩
  · simp (disch := first | omega | simp only [Zs]; omega) only [Zo, Ze, Zn, Zq]
  · simp (disch := first | omega | simp only [Zs]; omega) only [Zo, Ze, Zn, Zq]
  · simp (disch := first | omega | simp only [Zs]; omega) only [Zo, Ze, Zn, Zq]
  · simp (disch := first | omega | simp only [Zs]; omega) only [Zo, Ze, Zn, Zq]
  obtain ⟨b8, m7⟩ := store_new w6 37 (zc := (Value.agg #[.int .i64 0, .slice none 0 0, .bool false, .slice none 0 0, .slice none 0 0]).cells) (cs := cx) (by rw [hcx]; rfl)
  generalize (w6.alloc (.cells (Value.agg #[.int .i64 0, .slice none 0 0, .bool false, .slice none 0 0, .slice none 0 0]).cells 37)).setCells w6.heap.size 0 cx.toList = w7 at *
  obtain ⟨x8, hx8⟩ : ∃ x, x = w6.heap.size := ⟨_, rfl⟩
  rw [<- hx8] at b8 ⊢
  refine wp_act (fun a : Act => Act.get a 3 = .pointer (some ⟨x3, 0, none⟩) /\ Act.get a 6 = .pointer (some ⟨x6, 0, none⟩) /\ Act.get a 7 = .int .i64 k /\ Act.get a 8 = .pointer (some ⟨x8, 0, none⟩) /\ Act.get a 9 = .bool true /\ a.tmps.size = 37 /\ a.defers = []) ⟨?_, ?_, ?_, ?_, ?_, ?_, ?_⟩ ?_
  · simp (disch := first | omega | simp only [Zs]; omega) only [Zo, Ze, Zn, Zq, a3]
  · simp (disch := first | omega | simp only [Zs]; omega) only [Zo, Ze, Zn, Zq, a6]
  · simp (disch := first | omega | simp only [Zs]; omega) only [Zo, Ze, Zn, Zq, a7]
  · simp (disch := first | omega | simp only [Zs]; omega) only [Zo, Ze, Zn, Zq]
  · simp (disch := first | omega | simp only [Zs]; omega) only [Zo, Ze, Zn, Zq]
  · simp only [Zs]; exact aN
  · simp only [Zd]; exact ad
  clear a3 a6 a7 aN ad
  rintro a ⟨a3, a6, a7, a8, a9, aN, ad⟩
  have m57 := (m5.trans m6).trans m7
  have hl1 : xs.length = 9 := (toldsW_at htold).1
  have hdf : DefsW Zg (G (D_JoinGroupResponse (.num k :: xs, if flexW 6 k = true then cutW (unkW t.U) else []))) := by
    intro i hi hne
    have hx := hlg (D_JoinGroupResponse (.num k :: xs, if flexW 6 k = true then cutW (unkW t.U) else [])) i hi
    have hi' : i = 0 \/ i = 1 \/ i = 2 \/ i = 3 \/ i = 4 \/ i = 5 \/ i = 6 \/ i = 7 \/ i = 8 := by simp at hi; omega
    rcases hi' with rfl | rfl | rfl | rfl | rfl | rfl | rfl | rfl | rfl
    · exact absurd rfl hne
    · exact absurd rfl hne
    · refine ⟨.inr (.inr (.inr (.inl rfl))), ?_⟩
      rw [hx rfl]
      simp [D_JoinGroupResponse, List.getD, hl1]
      show ((-1) : Int) = numberW 3 (-1)
      first | rfl | decide | (simp [numberW]; done) | (simp [numberW, wrap32]; done) | (simp [numberW, wrap16]; done) | kernel_rfl
    · exact absurd rfl hne
    · exact absurd rfl hne
    · exact absurd rfl hne
    · exact absurd rfl hne
    · exact absurd rfl hne
    · exact absurd rfl hne
  refine wp_seq (wp_mono (dflt_last aN a6 a8 a9 (m57.some b6 (fun f => f)) b8 hcx (htr.mod m7 (fun _ _ f => f) (fun _ _ => trivial))
    (fun W cg hm hc hx => defaults_c (fun f hf => mem_dok (fs := Zg) (by decide) f hf) ((hfs4.mod m57).mod hm) hc hx hdf)) ?_)
  rintro e a' w8 ⟨rfl, m8, h4, hd4⟩
  exact wp_ret (bodyPost_ret (results_tmp rfl _ _ _) (hd4.trans ad) ⟨congrArg Ending.returned h4, ((m0.trans m04).trans m57).trans m8⟩)
end Go.Proofs.YtpecdnfmlodmaaaGreatDoorR
set_option linter.unusedSimpArgs false
set_option linter.unusedVariables false
namespace Go.Proofs.YtpecdnfmlodmaaaGreatDoorR.CJoinGroupResponse
open Go Go.ChangeShapes Go.WideShapes Go.ChangeAt Go.RowKit Go.Proofs.YtpecdnfmlodmaaaGreatDoorR
theorem goesBy_of {c : OpenClaim} {P : Program} {f : FuncId} (hs : c.start = .entering) (hn : P.funcNamed c.func = some f) (hg : P.goes f = false) : false = c.goesBy P := by
 simp [OpenClaim.goesBy, Program.goesAt, Program.goesFrom, hs, hn, hg]
section
variable {H : Type} {enc : TypeId × Value -> H} {P : Program}
theorem post_of_below' {f : Func} {s : ChangeSpec} {apart fresh handsOn again : Bool} {W W' : World} {args : Array Value} {v : Value} {ds gs : List (DataW H)} {before pa pv : List MemPlace}
  (hW : DataW.Whole enc P f.params.toList s.vars apart W args.toList ds gs before)
  (hres : ∀ (b : Nat) (sp : Nat -> Bool) (hd : Bool), DataW.TrodAll enc P W' b sp hd f.resultTypes.toList (v.resultList f.resultTypes.size) (s.fn H (ds ++ gs)).results [])
  (hargs : ∀ sp : Nat -> Bool, (∀ p ∈ before, sp p.block = true) -> DataW.TrodAll enc P W' 0 sp true f.params.toList args.toList (s.fn H (ds ++ gs)).args pa)
  (hvars : ∀ sp : Nat -> Bool, (∀ p ∈ before, sp p.block = true) -> DataW.TrodVars enc P W' sp s.vars (s.fn H (ds ++ gs)).vars pv)
  (hps : before = pa ++ pv) (hb : Below W.heap.size W W')
  (hok : ∀ (j : Nat) (t : TypeId) (r : Value), f.resultTypes[j]? = some t -> (v.resultList f.resultTypes.size)[j]? = some r -> Value.okWide P W' .any 0 t r) :
  s.post enc P f apart fresh handsOn again W args v W' := by
 have hlt : ∀ p ∈ before, p.block < W.heap.size := fun p hp => hW.lt p hp
 have hold : ∀ p ∈ before, (fun b => decide (b < W.heap.size)) p.block = true := fun p hp => by simpa using hlt p hp
 refine ⟨ds, gs, before, [], pa, pv, hW, hres _ _ _, hargs _ hold, hvars _ hold, World.keptBut_mono (fun p hp => ⟨hp, ?_⟩) (hb.frame (· ∈ before)), fun _ => ?_⟩
 ·rw [hps, List.mem_append] at hp
  exact Or.inr hp
 ·obtain ⟨_, _, _, _, _, hz, hn⟩ := hW
  refine ⟨hok, _, _, ([] ++ pa) ++ pv, ⟨[] ++ pa, pv, trodAll_append (hargs _ (fun _ _ => rfl)) (hres _ _ _), hvars _ (fun _ _ => rfl), rfl, ?_, ?_⟩, ?_⟩
  ·intro b off hp
   have hin : MemPlace.cell b off ∈ before := by rw [hps]; simpa using hp
   rw [hb.frozen (hlt _ hin)]
   exact hz b off hin
  ·intro ha
   have := hn ha
   rw [hps] at this
   simpa using this
  ·intro p hp _
   rw [hps]
   simpa using hp
end
theorem own : ownKnob Tryz.prog.godebug = none := by kernel_rfl
theorem gErrName : Tryz.prog.globalNamed "pub-mailsack/pub/kmsg/inner/kbin.ErrNotEnoughData" = some gErr := by kernel_rfl
theorem gErrType : (Tryz.prog.globals[gErr]?).map (·.type) = some 60 := by kernel_rfl
theorem star : "*" ++ "errors.errorString" = "*errors.errorString" := by decide
theorem rowOf (u : TypeId) (h : Tryz.prog.typeName? 3 u = some "*errors.errorString") : u = 301 :=
 typeName_ptr_named (nm := "errors.errorString") (by rw [star]; kernel_rfl) (by kernel_rfl) (by decide) u (by rw [star]; exact h)
theorem cellsE : Tryz.prog.cellsOf 319 = 1 := by kernel_rfl
theorem cellsS : Tryz.prog.cellsOf 9 = 1 := by kernel_rfl
/-- what the row's list gives -/
theorem errOf {W : World} (h : laidMetH Tryz.prog Rows.fnDefaultJoinGroupResponseUptoRow.laid W) : ∃ ev, ErrIs W ev /\ ∃ tx vx, ev = .iface tx vx := by
 obtain ⟨a0, s0, hv0, -, -, -⟩ := laid_sentinel (show laidMet Tryz.prog Rows.fnDefaultJoinGroupResponseUptoRow.laid W from h) gErrName gErrType Tryz.underlying60 rowOf Tryz.underlying301 Tryz.underlying319 rfl rfl Tryz.underlying9 cellsE cellsS
 exact ⟨_, by have h0 := World.var?_cell gErrName hv0 0; unfold ErrIs; simpa using h0, _, _, rfl⟩
theorem rowsFull : ∀ t e, t < Tryz.prog.types.size -> Tryz.prog.underlying t = some (.slice e) -> 0 < Tryz.prog.cellsOf e := slices_full_of Tryz.prog (by kernel_rfl)
theorem carryAll {H : Type} {enc : TypeId × Value -> H} {P : Program} {w w' : World} {base : Nat} {spare : Nat -> Bool} {held : Bool} : ∀ {ts : List TypeId} {vs : List Value} {ds : List (DataW H)} {ps : List MemPlace}, DataW.TrodAll enc P w base spare held ts vs ds ps -> (∀ p ∈ ps, w.sameAt w' p) -> DataW.TrodAll enc P w' base spare held ts vs ds ps
 | [], [], [], _, h, _ => h
 | _ :: _, _ :: _, _ :: _, _, ⟨p, q, ⟨n, h1⟩, h2, e⟩, hs => ⟨p, q, ⟨n, DataW.trod_carry n _ _ _ h1 (fun x hx => hs x (by rw [e]; exact List.mem_append_left _ hx))⟩, carryAll h2 (fun x hx => hs x (by rw [e]; exact List.mem_append_right _ hx)), e⟩
set_option maxRecDepth 100000 in
theorem contract (H : Type) (enc : TypeId × Value -> H) (W : World) (base : Nat) (args : Array Value) (ds gs : List (DataW H)) (before : List MemPlace)
  (hval : ∀ (j : Nat) t v, Tryz.f9.params[j]? = some t -> args[j]? = some v -> Value.okWide Tryz.prog W .any base t v)
  (hW : DataW.Whole enc Tryz.prog Tryz.f9.params.toList Rows.fnDefaultJoinGroupResponseSpec.vars false W args.toList ds gs before) (hL : laidMetH Tryz.prog Rows.fnDefaultJoinGroupResponseUptoRow.laid W)
  (hk : ∀ k, (Rows.OpenSpec.upto Rows.fnDefaultJoinGroupResponseSpec).cond = some k -> k H (ds ++ gs) = true) :
  Calls Tryz.prog 9 args W fun e W' => ∃ v, e = .returned v /\ Rows.fnDefaultJoinGroupResponseSpec.post enc Tryz.prog Tryz.f9 false true false false W args v W' := by
 have hW' := hW
 have hlt : ∀ p ∈ before, p.block < W.heap.size := fun p hp => hW.lt p hp
 obtain ⟨p, q, hA0, hV, rfl, hfz, hnd⟩ := hW
 have hA : DataW.TrodAll enc Tryz.prog W 0 (fun _ => true) true Tryz.f9.params.toList args.toList ds p := hA0
 rw [Tryz.params9] at hA hval
 have hAA := hA
 obtain ⟨v0, vs0, d0, ds0, p0, q0, hargs, rfl, rfl, h0, r0⟩ := trodAll_cons hA
 obtain ⟨v1, vs1, d1, ds1, p1, q1, rfl, rfl, rfl, h1, r1⟩ := trodAll_cons r0
 obtain ⟨rfl, rfl, rfl⟩ := trodAll_nil r1
 obtain rfl : args = #[v0, v1] := by cases args; simp_all
 obtain ⟨rfl, rfl⟩ := trodVars_none hV
 obtain ⟨n, rfl, rfl, rfl, hwn⟩ := open_int Tryz.underlying5 (hval 0 5 v0 rfl rfl) h0
 clear hA0
 obtain ⟨ev, hE, hev⟩ := errOf hL
 obtain ⟨ct, rfl, hct⟩ := okWide_struct Tryz.underlying26 (hval 1 26 v1 rfl rfl)
 rw [cellsTree] at hct
 obtain ⟨fuel, hf⟩ := h1
 obtain ⟨t, hti, hbulk⟩ := open_tree fuel _ _ hf
 have ht : TreeI W (from' ct 0) t := hti.congr (fun j hj => by simp [from', Value.cells, Array.getD, List.getD, hct, hj])
 have hn : 0 <= n /\ n <= 255 := by
  simp [Lit.wf, IntKind.min, IntKind.max, IntKind.signed, IntKind.bits] at hwn
  omega
 have hlen : ∀ ver fl, (partW Zg ver fl t).length <= 4294967295 := fun ver fl => upto_len (by decide) ht.ok (by have h3 : t.bulk <= Rows.uptoBulk d1 := hbulk; have h2 := of_decide_eq_true (hk _ rfl); simp only [List.append_nil, Rows.uptoBulkAll] at h2; omega)
 refine (law_JoinGroupResponse hn hE hev hct ht hlen).mono fun e W' ⟨he, hm⟩ => ?_
 subst he
 refine ⟨_, rfl, post_of_below' (pv := []) hW' (fun _ _ _ => trodAll_cons_mk (shut_bool Tryz.underlying4 _) trodAll_mk0) (fun sp hsp => ?_) (fun _ _ => rfl) rfl hm.below
  (ok_one (by kernel_rfl) rfl (okWide_bool_mk Tryz.underlying4 _))⟩
 rw [Tryz.params9]
 refine carryAll (DataW.TrodAll.respare (kids_rows (by kernel_rfl) (by kernel_rfl)) rowsFull (by decide +kernel) hAA (fun x hx => hsp x (by simpa using hx))) (fun x hx => hm.below.same (hlt x (by simpa using hx)))
abbrev errText : ByteArray := { data := #[114, 101, 115, 112, 111, 110, 115, 101, 32, 100, 105, 100, 32, 110, 111, 116, 32, 99, 111, 110, 116, 97, 105, 110, 32, 101, 110, 111, 117, 103, 104, 32, 100, 97, 116, 97, 32, 116, 111, 32, 98, 101, 32, 118, 97, 108, 105, 100] }
noncomputable def lowB : Nat := (World.holding Tryz.prog default ⟨#[], #[], []⟩).heap.size
noncomputable def laidWorld (os : Os) : World :=
 let w0 := World.holding Tryz.prog os ⟨#[.cells #[.string errText] 319], #[], []⟩
 { w0 with heap := w0.heap.modify gErr fun
   | .cells _ t frozen => .cells #[.iface 301 (.pointer (some ⟨lowB, 0, none⟩))] t frozen
   | o => o }
abbrev wArgs : Array Value := #[.int .u8 0, .agg #[.int .i64 0, .slice none 0 0, .bool false, .slice none 0 0, .slice none 0 0]]
theorem laid_met (os : Os) : laidMet Tryz.prog Rows.fnDefaultJoinGroupResponseUptoRow.laid ((laidWorld os).forCall (fun _ _ => 0) ⟨#[], wArgs, []⟩).memory :=
 laidMet_of_run' 8 (by kernel_rfl) (by kernel_rfl)
theorem reads (os : Os) {H : Type} (enc : TypeId × Value -> H) : ∃ places, DataW.whole enc Tryz.prog ((laidWorld os).forCall (fun _ _ => 0) ⟨#[], wArgs, []⟩).memory Tryz.f9.params.toList Rows.fnDefaultJoinGroupResponseSpec.vars false wArgs.toList 8 = some ([.lit (.int .u8 0), .agg [.lit (.int .i64 0), .nil, .lit (.bool false), .nil, .nil]], [], places) :=
 ⟨[], by kernel_rfl⟩
set_option maxRecDepth 100000 in
theorem lifted (os : Os) (started : os.Started) (H : Type) (enc : TypeId × Value -> H) (F : Stop.Interp) :
  ReturnsInHanded {} Tryz.checked os 9 .any ((Rows.OpenSpec.upto Rows.fnDefaultJoinGroupResponseSpec).preRow enc Tryz.prog Tryz.f9 Rows.fnDefaultJoinGroupResponseUptoRow.domain false Rows.fnDefaultJoinGroupResponseUptoRow.laid) (((Rows.OpenSpec.upto Rows.fnDefaultJoinGroupResponseSpec).at F).post enc Tryz.prog Tryz.f9 false true false false) := by
 obtain ⟨places, hx⟩ := reads os enc
 refine returnsInHanded_of_row (C := Tryz.checked) (s := Rows.OpenSpec.upto Rows.fnDefaultJoinGroupResponseSpec) own started (by kernel_rfl) Tryz.func9
  (witness_row_at (enc := enc) (C := Tryz.checked) false (laidWorld os) wArgs rfl (by kernel_rfl) (by kernel_rfl) (by kernel_rfl)
   (OpenSpec.preRow_of_cond 8 hx (by kernel_rfl) (fun k hk => by first | (cases hk; kernel_rfl) | cases hk) (by kernel_rfl) (laid_met os))) ?_
 intro W base args ds gs before hval hW _ hk _ hL _ _
 exact contract H enc W base args ds gs before hval hW hL hk
set_option maxRecDepth 100000 in
theorem clo : Program.closure Tryz.prog 9 = [9, 11, 43, 105, 36, 92, 97, 93, 37, 94, 14, 16, 50, 52, 51, 113, 118, 119, 189, 115, 116, 190, 57, 117, 114, 53, 56, 42, 38, 95, 96, 150, 166, 233, 177, 237, 178, 234, 258, 236, 235, 179, 180, 181, 172, 174, 173, 175, 195, 167, 168, 169, 170, 223, 224, 225, 184, 239, 98, 131, 125, 151, 226, 227, 110, 188, 187, 242, 243, 244, 245, 257, 270, 246, 271, 272, 279, 273, 280, 281, 274, 282, 283, 284, 275, 276, 277, 278, 112, 152, 19, 35, 91] := by kernel_rfl
set_option maxRecDepth 100000 in
theorem eP : Program.inPlace Tryz.prog 9 = ["internal/reflectlite.ValueOf", "internal/reflectlite.Swapper", "(internal/reflectlite.Value).Len"] := by unfold Program.inPlace; rw [clo]; kernel_rfl
set_option maxRecDepth 100000 in
theorem eU : Program.unfollowed Tryz.prog 9 = true := by unfold Program.unfollowed; rw [clo]; kernel_rfl
theorem eR : Program.recurses Tryz.prog 9 = true := by unfold Program.recurses; rw [eU]; rfl
set_option maxRecDepth 100000 in
theorem eV : Program.varsNamed Tryz.prog 9 = ["encoding/binary.BigEndian", "pub-mailsack/pub/kmsg/inner/kbin.ErrNotEnoughData"] := by unfold Program.varsNamed; rw [clo]; kernel_rfl
set_option maxRecDepth 100000 in
theorem eG : Program.goes Tryz.prog 9 = false := by unfold Program.goes; rw [clo, eU]; kernel_rfl
set_option maxRecDepth 100000 in
theorem facts : joinedFacts Tryz.prog 9 Tryz.f9 (Rows.OpenSpec.upto Rows.fnDefaultJoinGroupResponseSpec).bare Rows.fnDefaultJoinGroupResponseUptoRow = true := by
 unfold joinedFacts
 rw [eP, eU, eR, eV]
 kernel_rfl
theorem said : Rows.FnDefaultJoinGroupResponseUptoSaid :=
 OpenClaim.holds_of_cond 9 Tryz.f9 rfl rfl rfl rfl rfl rfl rfl ⟨rfl, rfl, rfl, rfl, rfl⟩ rfl rfl rfl rfl rfl (by kernel_rfl) Tryz.func9 facts
  (of_decide_eq_true (by kernel_rfl)) (by unfold Func.isWrapper; first | (rw [if_pos (by decide +kernel)]; kernel_rfl) | (rw [if_neg (by decide +kernel)]; exact ⟨rfl, rfl⟩))
  (fun os started H enc _ F => by rw [OpenClaim.pre_eq_preRow]; exact lifted os started H enc F)
theorem plain (f : FuncId) (fn : Func) (hf : Tryz.pinned.checked.prog.funcNamed "pub-mailsack/laws.FnDefaultJoinGroupResponse" = some f) (hfn : Tryz.pinned.checked.prog.funcs[f]? = some fn) :
  false = Tryz.pinned.checked.prog.looks [] /\ ∀ (j : Nat) t, fn.params[j]? = some t -> Tryz.pinned.checked.prog.wantsStandIn t = false := by
 obtain rfl : f = 9 := Option.some.inj ((show Tryz.prog.funcNamed "pub-mailsack/laws.FnDefaultJoinGroupResponse" = some 9 by kernel_rfl).symm.trans hf) |>.symm
 obtain rfl : fn = Tryz.f9 := (Option.some.inj (Tryz.func9.symm.trans hfn)).symm
 refine ⟨by kernel_rfl, fun j t ht => ?_⟩
 rw [Tryz.params9] at ht
 have : t = 5 \/ t = 26 := by simpa using Array.mem_of_getElem? ht
 rcases this with rfl | rfl
 ·exact (show Tryz.prog.wantsStandIn 5 = false by kernel_rfl)
 ·exact (show Tryz.prog.wantsStandIn 26 = false by kernel_rfl)
theorem card : Rows.FnDefaultJoinGroupResponseUptoCardSaid :=
 Claim7.holds_tied_plain_at .later [] _ _ _ _ said (fun _ h => by cases h) (by kernel_rfl) (fun _ h => by cases h) fnDefaultJoinGroupResponseUpto_row_tie rfl ⟨rfl, rfl⟩ (by kernel_rfl) rfl plain (goesBy_of (P := Tryz.prog) (f := 9) rfl (by kernel_rfl) eG)
end Go.Proofs.YtpecdnfmlodmaaaGreatDoorR.CJoinGroupResponse
