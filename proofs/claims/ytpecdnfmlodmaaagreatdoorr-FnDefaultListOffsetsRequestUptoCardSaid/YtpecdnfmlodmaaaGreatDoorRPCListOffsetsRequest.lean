/-
  ListOffsetsRequest: how it is read.
  ListOffsetsRequest: its doors.
  FnDefaultListOffsetsRequest: the walk through the law.
  FnDefaultListOffsetsRequest: the row and its card.
-/
import Derived.Laws.IdiomCopy
import Derived.Test.YtpecdnfmlodmaaaGreatDoorRCards
import Derived.Test.YtpecdnfmlodmaaaGreatDoorRTie
import Derived.WalkKit
import Derived.ProofKit
import Derived.OpenShut
import Derived.Below
import Derived.ChangeSame
import Derived.ChangeSlices
import Derived.Stop.LaidErr
import Derived.Deep.DeepHandedRow
import Derived.Deep.DeepWitnessRowRef
import Derived.ReadAgain
import Derived.Test.YtpecdnfmlodmaaaGreatDoorRPDd
import Derived.Test.YtpecdnfmlodmaaaGreatDoorRPDf
import Derived.Test.YtpecdnfmlodmaaaGreatDoorRPWr
set_option linter.unusedSimpArgs false
set_option linter.unusedVariables false
namespace Go.Proofs.YtpecdnfmlodmaaaGreatDoorR
open Go Go.RowKit
abbrev sListOffsetsRequest : St := ⟨10, .cons 0 (.int .i16) (.cons 1 (.int .i32) (.cons 2 (.int .i8) (.cons 3 (.list (.struct (.cons 0 .str (.cons 1 (.list (.struct (.cons 0 (.int .i32) (.cons 1 (.int .i32) (.cons 2 (.int .i64) (.cons 3 (.int .i32) .nil)))) (some 4) 5) 5) .nil)) (some 2) 3) 3) (.cons 4 (.int .i32) .nil)))), some 5, 6⟩
theorem d_sListOffsetsRequest : DfC Tryz.prog 89 sListOffsetsRequest (fun v => ((((v).1.set 1 (.num (-1)), (v).2)).1.set 4 (.num (30000)), (((v).1.set 1 (.num (-1)), (v).2)).2)) := by
 apply dfc_rule (N := 8) (hf := Tryz.func89) (hbody := rfl) (hN := rfl) (hres := rfl) (hN1 := by decide)
 apply dblk_seq (d := fun v => ((v).1.set 1 (.num (-1)), (v).2)) (d' := fun v => ((v).1.set 4 (.num (30000)), (v).2))
 ·apply dblk_set (i := 1) (u := .num (-1)) (hat := rfl) (hok := by rfl) (h1 := rfl) (hf := by kernel_rfl) (hsz := by kernel_rfl) (hval := rfl) (hrep := fun w F => by simp only [Rep]; exact ⟨_, rfl, by simp [fits, IntKind.min, IntKind.max, IntKind.signed, IntKind.bits], rfl⟩) (hs := by rfl)
 ·apply dblk_set (i := 4) (u := .num (30000)) (hat := rfl) (hok := by rfl) (h1 := rfl) (hf := by kernel_rfl) (hsz := by kernel_rfl) (hval := rfl) (hrep := fun w F => by simp only [Rep]; exact ⟨_, rfl, by simp [fits, IntKind.min, IntKind.max, IntKind.signed, IntKind.bits], rfl⟩) (hs := by rfl)
abbrev sListOffsetsRequest_1 : St := ⟨18, .cons 0 .str (.cons 1 (.list (.struct (.cons 0 (.int .i32) (.cons 1 (.int .i32) (.cons 2 (.int .i64) (.cons 3 (.int .i32) .nil)))) (some 4) 5) 5) .nil), some 2, 3⟩
theorem d_sListOffsetsRequest_1 : DfC Tryz.prog 219 sListOffsetsRequest_1 (fun v => v) := by
 apply dfc_rule (N := 2) (hf := Tryz.func219) (hbody := rfl) (hN := rfl) (hres := rfl) (hN1 := by decide)
 exact dblk_skip
abbrev sListOffsetsRequest_2 : St := ⟨25, .cons 0 (.int .i32) (.cons 1 (.int .i32) (.cons 2 (.int .i64) (.cons 3 (.int .i32) .nil))), some 4, 5⟩
theorem d_sListOffsetsRequest_2 : DfC Tryz.prog 220 sListOffsetsRequest_2 (fun v => ((((v).1.set 1 (.num (-1)), (v).2)).1.set 3 (.num (1)), (((v).1.set 1 (.num (-1)), (v).2)).2)) := by
 apply dfc_rule (N := 8) (hf := Tryz.func220) (hbody := rfl) (hN := rfl) (hres := rfl) (hN1 := by decide)
 apply dblk_seq (d := fun v => ((v).1.set 1 (.num (-1)), (v).2)) (d' := fun v => ((v).1.set 3 (.num (1)), (v).2))
 ·apply dblk_set (i := 1) (u := .num (-1)) (hat := rfl) (hok := by rfl) (h1 := rfl) (hf := by kernel_rfl) (hsz := by kernel_rfl) (hval := rfl) (hrep := fun w F => by simp only [Rep]; exact ⟨_, rfl, by simp [fits, IntKind.min, IntKind.max, IntKind.signed, IntKind.bits], rfl⟩) (hs := by rfl)
 ·apply dblk_set (i := 3) (u := .num (1)) (hat := rfl) (hok := by rfl) (h1 := rfl) (hf := by kernel_rfl) (hsz := by kernel_rfl) (hval := rfl) (hrep := fun w F => by simp only [Rep]; exact ⟨_, rfl, by simp [fits, IntKind.min, IntKind.max, IntKind.signed, IntKind.bits], rfl⟩) (hs := by rfl)
abbrev v_ListOffsetsRequest : SV := (((((Lay.zeroL sListOffsetsRequest.lay, ([] : Tags))).1.set 1 (.num (-1)), ((Lay.zeroL sListOffsetsRequest.lay, ([] : Tags))).2)).1.set 4 (.num (30000)), ((((Lay.zeroL sListOffsetsRequest.lay, ([] : Tags))).1.set 1 (.num (-1)), ((Lay.zeroL sListOffsetsRequest.lay, ([] : Tags))).2)).2)
abbrev Zf : Int -> Bool := (fun ver => decide ((6 : Int) <= ver))
abbrev Zg : List FD := [.mk 3 0 (-1) (-1) (-1) (-1) 0 [], .mk 1 2 (-1) (-1) (-1) 0 0 [], .mk 11 0 (-1) (-1) (-1) 0 10 [.mk 8 0 (-1) (-1) (-1) 0 0 [], .mk 11 0 (-1) (-1) (-1) 0 10 [.mk 3 0 (-1) (-1) (-1) 0 0 [], .mk 3 4 (-1) (-1) (-1) (-1) 0 [], .mk 4 0 (-1) (-1) (-1) 0 0 [], .mk 3 0 0 (-1) (-1) 1 0 []]], .mk 3 10 (-1) (-1) (-1) 30000 0 []]
abbrev Zk : OkV := fun ver fl => 0 <= ver /\ ver <= 11 /\ fl = Zf ver
set_option maxRecDepth 100000 in
theorem read_ListOffsetsRequest : ∃ ft, ReadC Tryz.prog 147 sListOffsetsRequest Zf ft /\ WrI Zk ft v_ListOffsetsRequest Zg := by
 apply Exists.intro
 constructor
 ·apply read_flex (m := 31) (N := 186) (hf := Tryz.func147) (hN := rfl) (hres := rfl) (hR := rdT) (h16 := by kernel_rfl) (hver := by kernel_rfl) (hlay := rfl) (hsz := rfl) (hs := rfl) (hm := by decide) (hmN := by decide)
   (hbd := by kernel_rfl) (hd := d_sListOffsetsRequest) (hd0 := fun v n h => by simpa using h) (hbody := rfl)
  apply whole_seq
  ·apply blk_get (i := 1)
   ·apply get_call
    ·exact rc_Int32
    ·kernel_rfl
    ·rfl
   ·apply blkV_put
    ·rfl
    ·rfl
    ·kernel_rfl
    ·kernel_rfl
    ·rfl
   ·rfl
  ·apply whole_seq
   ·apply blk_if
    ·apply tst_geq
     rfl
    ·apply blk_get (i := 2)
     ·apply get_call
      ·exact rc_Int8
      ·kernel_rfl
      ·rfl
     ·apply blkV_put
      ·rfl
      ·rfl
      ·kernel_rfl
      ·kernel_rfl
      ·rfl
     ·rfl
    ·exact blk_skip
    ·rfl
   ·apply whole_seq
    ·apply blk_list (i := 3)
     ·rfl
     ·rfl
     ·kernel_rfl
     ·kernel_rfl
     ·kernel_rfl
     ·apply get_flex
      ·rfl
      ·apply get_call
       ·exact rc_CompactArrayLen
       ·kernel_rfl
       ·rfl
      ·apply get_call
       ·exact rc_ArrayLen
       ·kernel_rfl
       ·rfl
      ·rfl
     ·apply ok_rule
      ·exact rd_Ok
      ·exact rd_Complete
      ·kernel_rfl
      ·kernel_rfl
      ·rfl
     ·apply cut_rule (sz := 3) (e := 172)
      ·kernel_rfl
      ·rfl
     ·apply grow_rule (e := 172) (zs := #[.string (str []), .slice none 0 0, .map none])
      ·kernel_rfl
      ·kernel_rfl
      ·kernel_rfl
      ·rfl
     ·apply loop_rule
      ·apply elem_struct (σ := sListOffsetsRequest_1) (e := 172) (z := from' #[.string (str []), .slice none 0 0, .map none] 0) (z0 := (Lay.zeroL sListOffsetsRequest_1.lay, []))
       ·apply blk_seq
        ·apply blk_seq
         ·apply blk_nop
          rfl
         ·apply blk_get (i := 0)
          ·apply get_uns
           ·apply get_flex
            ·rfl
            ·apply get_call
             ·exact rc_UnsafeCompactString
             ·kernel_rfl
             ·rfl
            ·apply get_call
             ·exact rc_UnsafeString
             ·kernel_rfl
             ·rfl
            ·rfl
           ·apply get_flex
            ·rfl
            ·apply get_call
             ·exact rc_CompactString
             ·kernel_rfl
             ·rfl
            ·apply get_call
             ·exact rc_String
             ·kernel_rfl
             ·rfl
            ·rfl
           ·rfl
          ·apply blkV_put
           ·rfl
           ·rfl
           ·kernel_rfl
           ·kernel_rfl
           ·rfl
          ·rfl
         ·decide
        ·apply blk_seq
         ·apply blk_list (i := 1)
          ·rfl
          ·rfl
          ·kernel_rfl
          ·kernel_rfl
          ·kernel_rfl
          ·apply get_flex
           ·rfl
           ·apply get_call
            ·exact rc_CompactArrayLen
            ·kernel_rfl
            ·rfl
           ·apply get_call
            ·exact rc_ArrayLen
            ·kernel_rfl
            ·rfl
           ·rfl
          ·apply ok_rule
           ·exact rd_Ok
           ·exact rd_Complete
           ·kernel_rfl
           ·kernel_rfl
           ·rfl
          ·apply cut_rule (sz := 5) (e := 250)
           ·kernel_rfl
           ·rfl
          ·apply grow_rule (e := 250) (zs := #[.int .i32 0, .int .i32 0, .int .i64 0, .int .i32 0, .map none])
           ·kernel_rfl
           ·kernel_rfl
           ·kernel_rfl
           ·rfl
          ·apply loop_rule
           ·apply elem_struct (σ := sListOffsetsRequest_2) (e := 250) (z := from' #[.int .i32 0, .int .i32 0, .int .i64 0, .int .i32 0, .map none] 0) (z0 := (Lay.zeroL sListOffsetsRequest_2.lay, []))
            ·apply blk_seq
             ·apply blk_get (i := 0)
              ·apply get_call
               ·exact rc_Int32
               ·kernel_rfl
               ·rfl
              ·apply blkV_put
               ·rfl
               ·rfl
               ·kernel_rfl
               ·kernel_rfl
               ·rfl
              ·rfl
             ·apply blk_seq
              ·apply blk_if
               ·apply tst_geq
                rfl
               ·apply blk_get (i := 1)
                ·apply get_call
                 ·exact rc_Int32
                 ·kernel_rfl
                 ·rfl
                ·apply blkV_put
                 ·rfl
                 ·rfl
                 ·kernel_rfl
                 ·kernel_rfl
                 ·rfl
                ·rfl
               ·exact blk_skip
               ·rfl
              ·apply blk_seq
               ·apply blk_get (i := 2)
                ·apply get_call
                 ·exact rc_Int64
                 ·kernel_rfl
                 ·rfl
                ·apply blkV_put
                 ·rfl
                 ·rfl
                 ·kernel_rfl
                 ·kernel_rfl
                 ·rfl
                ·rfl
               ·apply blk_seq
                ·apply blk_if
                 ·apply tst_and
                  rfl
                 ·apply blk_get (i := 3)
                  ·apply get_call
                   ·exact rc_Int32
                   ·kernel_rfl
                   ·rfl
                  ·apply blkV_put
                   ·rfl
                   ·rfl
                   ·kernel_rfl
                   ·kernel_rfl
                   ·rfl
                  ·rfl
                 ·exact blk_skip
                 ·rfl
                ·apply blk_if
                 ·apply tst_flex
                  ·rfl
                  ·rfl
                 ·apply blk_tag
                  ·exact readTags_spec
                  ·kernel_rfl
                  ·rfl
                  ·kernel_rfl
                  ·kernel_rfl
                  ·rfl
                  ·rfl
                 ·exact blk_skip
                 ·rfl
                ·decide
               ·decide
              ·decide
             ·decide
            ·exact d_sListOffsetsRequest_2
            ·kernel_rfl
            ·kernel_rfl
            ·rfl
            ·rfl
            ·exact zero_ok (lay := sListOffsetsRequest_2.lay) (tg := sListOffsetsRequest_2.tg) (z := from' #[.int .i32 0, .int .i32 0, .int .i64 0, .int .i32 0, .map none] 0) (by repeat' (first | rfl | trivial | apply And.intro)) (by rfl)
            ·rfl
           ·rfl
          ·rfl
          ·rfl
          ·rfl
         ·apply blk_if
          ·apply tst_flex
           ·rfl
           ·rfl
          ·apply blk_tag
           ·exact readTags_spec
           ·kernel_rfl
           ·rfl
           ·kernel_rfl
           ·kernel_rfl
           ·rfl
           ·rfl
          ·exact blk_skip
          ·rfl
         ·decide
        ·decide
       ·exact d_sListOffsetsRequest_1
       ·kernel_rfl
       ·kernel_rfl
       ·rfl
       ·rfl
       ·exact zero_ok (lay := sListOffsetsRequest_1.lay) (tg := sListOffsetsRequest_1.tg) (z := from' #[.string (str []), .slice none 0 0, .map none] 0) (by repeat' (first | rfl | trivial | apply And.intro)) (by rfl)
       ·rfl
      ·rfl
     ·rfl
     ·rfl
     ·rfl
    ·apply whole_seq
     ·apply blk_if
      ·apply tst_geq
       rfl
      ·apply blk_get (i := 4)
       ·apply get_call
        ·exact rc_Int32
        ·kernel_rfl
        ·rfl
       ·apply blkV_put
        ·rfl
        ·rfl
        ·kernel_rfl
        ·kernel_rfl
        ·rfl
       ·rfl
      ·exact blk_skip
      ·rfl
     ·apply whole_seq
      ·apply blk_if
       ·apply tst_flex
        ·rfl
        ·rfl
       ·apply blk_tag
        ·exact readTags_spec
        ·kernel_rfl
        ·rfl
        ·kernel_rfl
        ·kernel_rfl
        ·rfl
        ·rfl
       ·exact blk_skip
       ·rfl
      ·apply whole_end
       ·exact rd_Complete
       ·kernel_rfl
       ·rfl
      ·rfl
     ·rfl
    ·rfl
   ·rfl
  ·rfl
 ·refine wr_read (zs := [.num (-1), .num 0, .nul, .num (30000)]) ?_ (fun ver => rfl)
  refine Zb (z := .num (-1)) ?_ (by kernel_rfl) ?_
  ·repeat' (first | (with_reducible refine piece_nop ?_) | (with_reducible refine piece_if ?_ ?_; rotate_left; · (refine has_if (by decide) ?_; intro v l h; simp [Zk, Zf] at h ⊢ <;> omega)))
   refine piece_put ?_ (FD.alw (by decide) (by intro v l h; simp [Zk, Zf] at h ⊢ <;> omega))
   repeat' (first | (with_reducible exact rdw_int32) | (with_reducible refine rdw_stiff rdw_int32 ?_; intro v l h; cases l with | false => rfl | true => (exfalso; simp [Zk, Zf] at h <;> omega)) | (with_reducible refine rdw_when ?_ ?_))
  refine Zb (z := .num 0) ?_ (by kernel_rfl) ?_
  ·repeat' (first | (with_reducible refine piece_nop ?_) | (with_reducible refine piece_if ?_ ?_; rotate_left; · (refine has_if (by decide) ?_; intro v l h; simp [Zk, Zf] at h ⊢ <;> omega)))
   refine piece_put ?_ (FD.alw (by decide) (by intro v l h; simp [Zk, Zf] at h ⊢ <;> omega))
   repeat' (first | (with_reducible exact rdw_int8) | (with_reducible refine rdw_stiff rdw_int8 ?_; intro v l h; cases l with | false => rfl | true => (exfalso; simp [Zk, Zf] at h <;> omega)) | (with_reducible refine rdw_when ?_ ?_))
  refine Zb (z := .nul) ?_ (by kernel_rfl) ?_
  ·repeat' (first | (with_reducible refine piece_nop ?_) | (with_reducible refine piece_if ?_ ?_; rotate_left; · (refine has_if (by decide) ?_; intro v l h; simp [Zk, Zf] at h ⊢ <;> omega)))
   refine piece_list ?_ ?_ (FD.alw (by decide) (by intro v l h; simp [Zk, Zf] at h ⊢ <;> omega)) ?_
   ·first | exact cnt_flex | exact cnt_stiff (by intro v l h; cases l with | false => rfl | true => (exfalso; simp [Zk, Zf] at h <;> omega))
   ·refine el_struct (zs := [.oct [], .nul]) ?_ (by intro v l h; simp [Zk, Zf] at h ⊢ <;> omega) (by decide)
    refine Zb (z := .oct []) ?_ (by kernel_rfl) ?_
    ·repeat' (first | (with_reducible refine piece_nop ?_) | (with_reducible refine piece_if ?_ ?_; rotate_left; · (refine has_if (by decide) ?_; intro v l h; simp [Zk, Zf] at h ⊢ <;> omega)))
     refine piece_put ?_ (FD.alw (by decide) (by intro v l h; simp [Zk, Zf] at h ⊢ <;> omega))
     repeat' (first | (with_reducible exact rdw_text) | (with_reducible exact rdw_ntext) | (with_reducible refine rdw_stiff rdw_text ?_; intro v l h; cases l with | false => rfl | true => (exfalso; simp [Zk, Zf] at h <;> omega)) | (with_reducible refine rdw_stiff rdw_ntext ?_; intro v l h; cases l with | false => rfl | true => (exfalso; simp [Zk, Zf] at h <;> omega)) | (with_reducible refine rdw_when ?_ ?_))
    refine Zb (z := .nul) ?_ (by kernel_rfl) ?_
    ·repeat' (first | (with_reducible refine piece_nop ?_) | (with_reducible refine piece_if ?_ ?_; rotate_left; · (refine has_if (by decide) ?_; intro v l h; simp [Zk, Zf] at h ⊢ <;> omega)))
     refine piece_list ?_ ?_ (FD.alw (by decide) (by intro v l h; simp [Zk, Zf] at h ⊢ <;> omega)) ?_
     ·first | exact cnt_flex | exact cnt_stiff (by intro v l h; cases l with | false => rfl | true => (exfalso; simp [Zk, Zf] at h <;> omega))
     ·refine el_struct (zs := [.num 0, .num (-1), .num 0, .num (1)]) ?_ (by intro v l h; simp [Zk, Zf] at h ⊢ <;> omega) (by decide)
      refine Zb (z := .num 0) ?_ (by kernel_rfl) ?_
      ·repeat' (first | (with_reducible refine piece_nop ?_) | (with_reducible refine piece_if ?_ ?_; rotate_left; · (refine has_if (by decide) ?_; intro v l h; simp [Zk, Zf] at h ⊢ <;> omega)))
       refine piece_put ?_ (FD.alw (by decide) (by intro v l h; simp [Zk, Zf] at h ⊢ <;> omega))
       repeat' (first | (with_reducible exact rdw_int32) | (with_reducible refine rdw_stiff rdw_int32 ?_; intro v l h; cases l with | false => rfl | true => (exfalso; simp [Zk, Zf] at h <;> omega)) | (with_reducible refine rdw_when ?_ ?_))
      refine Zb (z := .num (-1)) ?_ (by kernel_rfl) ?_
      ·repeat' (first | (with_reducible refine piece_nop ?_) | (with_reducible refine piece_if ?_ ?_; rotate_left; · (refine has_if (by decide) ?_; intro v l h; simp [Zk, Zf] at h ⊢ <;> omega)))
       refine piece_put ?_ (FD.alw (by decide) (by intro v l h; simp [Zk, Zf] at h ⊢ <;> omega))
       repeat' (first | (with_reducible exact rdw_int32) | (with_reducible refine rdw_stiff rdw_int32 ?_; intro v l h; cases l with | false => rfl | true => (exfalso; simp [Zk, Zf] at h <;> omega)) | (with_reducible refine rdw_when ?_ ?_))
      refine Zb (z := .num 0) ?_ (by kernel_rfl) ?_
      ·repeat' (first | (with_reducible refine piece_nop ?_) | (with_reducible refine piece_if ?_ ?_; rotate_left; · (refine has_if (by decide) ?_; intro v l h; simp [Zk, Zf] at h ⊢ <;> omega)))
       refine piece_put ?_ (FD.alw (by decide) (by intro v l h; simp [Zk, Zf] at h ⊢ <;> omega))
       repeat' (first | (with_reducible exact rdw_int64) | (with_reducible refine rdw_stiff rdw_int64 ?_; intro v l h; cases l with | false => rfl | true => (exfalso; simp [Zk, Zf] at h <;> omega)) | (with_reducible refine rdw_when ?_ ?_))
      refine Zb (z := .num (1)) ?_ (by kernel_rfl) ?_
      ·repeat' (first | (with_reducible refine piece_nop ?_) | (with_reducible refine piece_if ?_ ?_; rotate_left; · (refine has_if (by decide) ?_; intro v l h; simp [Zk, Zf] at h ⊢ <;> omega)))
       refine piece_put ?_ (FD.alw (by decide) (by intro v l h; simp [Zk, Zf] at h ⊢ <;> omega))
       repeat' (first | (with_reducible exact rdw_int32) | (with_reducible refine rdw_stiff rdw_int32 ?_; intro v l h; cases l with | false => rfl | true => (exfalso; simp [Zk, Zf] at h <;> omega)) | (with_reducible refine rdw_when ?_ ?_))
      first | exact chain_tags' (by intro v l h; rfl) | exact chain_tags (by intro v l h; rfl)
     ·intro v l h; simp [Zk, Zf] at h ⊢ <;> omega
    first | exact chain_tags' (by intro v l h; rfl) | exact chain_tags (by intro v l h; rfl)
   ·intro v l h; simp [Zk, Zf] at h ⊢ <;> omega
  refine Zb (z := .num (30000)) ?_ (by kernel_rfl) ?_
  ·repeat' (first | (with_reducible refine piece_nop ?_) | (with_reducible refine piece_if ?_ ?_; rotate_left; · (refine has_if (by decide) ?_; intro v l h; simp [Zk, Zf] at h ⊢ <;> omega)))
   refine piece_put ?_ (FD.alw (by decide) (by intro v l h; simp [Zk, Zf] at h ⊢ <;> omega))
   repeat' (first | (with_reducible exact rdw_int32) | (with_reducible refine rdw_stiff rdw_int32 ?_; intro v l h; cases l with | false => rfl | true => (exfalso; simp [Zk, Zf] at h <;> omega)) | (with_reducible refine rdw_when ?_ ?_))
  first | exact chain_tags' (by intro v l h; rfl) | exact chain_tags (by intro v l h; rfl)
end Go.Proofs.YtpecdnfmlodmaaaGreatDoorR
set_option linter.unusedSimpArgs false
set_option linter.unusedVariables false
namespace Go.Proofs.YtpecdnfmlodmaaaGreatDoorR
open Go Go.RowKit
theorem new_ListOffsetsRequest : NewC Tryz.prog 84 sListOffsetsRequest v_ListOffsetsRequest := by
 refine new_rule (z := .agg #[.int .i16 0, .int .i32 0, .int .i8 0, .slice none 0 0, .int .i32 0, .map none]) Tryz.func84 rfl rfl rfl (by kernel_rfl) (by decide) (fun w => ?_) d_sListOffsetsRequest (by kernel_rfl)
 exact zero_ok (lay := sListOffsetsRequest.lay) (tg := sListOffsetsRequest.tg) (z := from' #[.int .i16 0, .int .i32 0, .int .i8 0, .slice none 0 0, .int .i32 0, .map none] 0) (by repeat' (first | rfl | trivial | apply And.intro)) (by rfl) w _
theorem set_ListOffsetsRequest : SetC Tryz.prog 87 sListOffsetsRequest :=
 set_rule Tryz.func87 rfl rfl rfl (by kernel_rfl) (by kernel_rfl) rfl rfl rfl (by decide)
set_option maxRecDepth 100000 in
theorem tell_ListOffsetsRequest_t221 : ∃ G, TellC Tryz.prog 221 sListOffsetsRequest_2 G /\ PresG ([.mk 3 0 (-1) (-1) (-1) 0 0 [], .mk 3 4 (-1) (-1) (-1) (-1) 0 [], .mk 4 0 (-1) (-1) (-1) 0 0 [], .mk 3 0 0 (-1) (-1) 1 0 []]) G 0 := by
 apply Exists.intro
 constructor
 ·apply tell_plain (N := 50) (n := 4) (hf := Tryz.func221) (hN := rfl) (hres := rfl) (hT := tellT) (hok := by rfl) (h4 := by decide) (hne := by decide) (hn := by decide) (hbody := rfl)
  apply twhole_seq
  ·apply tell_num (i := 0) (o := 0) (kd := .i32) tellT
   ·kernel_rfl
   ·kernel_rfl
   ·exact kd_i32
   ·kernel_rfl
   ·kernel_rfl
   ·rfl
   ·rfl
   ·decide
  ·apply twhole_seq
   ·apply tell_num (i := 1) (o := 1) (kd := .i32) tellT
    ·kernel_rfl
    ·kernel_rfl
    ·exact kd_i32
    ·kernel_rfl
    ·kernel_rfl
    ·rfl
    ·rfl
    ·decide
   ·apply twhole_seq
    ·apply tell_num64 (i := 2) (o := 2) tellT
     ·kernel_rfl
     ·kernel_rfl
     ·rfl
     ·rfl
     ·decide
    ·apply twhole_seq
     ·apply tell_num (i := 3) (o := 3) (kd := .i32) tellT
      ·kernel_rfl
      ·kernel_rfl
      ·exact kd_i32
      ·kernel_rfl
      ·kernel_rfl
      ·rfl
      ·rfl
      ·decide
     ·exact twhole_tags tellT tagT rfl (by kernel_rfl) (by rfl) (by kernel_rfl) (by kernel_rfl) (by kernel_rfl) each_spec sorted_spec (clo_rule Tryz.func256 rfl rfl tagT rfl)
 ·refine pres_leaf ?_
  refine pres_leaf ?_
  refine pres_leaf ?_
  refine pres_leaf ?_
  exact pres_nil
set_option maxRecDepth 100000 in
theorem tell_ListOffsetsRequest_t148 : ∃ G, TellC Tryz.prog 148 sListOffsetsRequest_1 G /\ PresG ([.mk 8 0 (-1) (-1) (-1) 0 0 [], .mk 11 0 (-1) (-1) (-1) 0 10 [.mk 3 0 (-1) (-1) (-1) 0 0 [], .mk 3 4 (-1) (-1) (-1) (-1) 0 [], .mk 4 0 (-1) (-1) (-1) 0 0 [], .mk 3 0 0 (-1) (-1) 1 0 []]]) G 0 := by
 obtain ⟨GListOffsetsRequest_t221, hGListOffsetsRequest_t221, hPListOffsetsRequest_t221⟩ := tell_ListOffsetsRequest_t221
 apply Exists.intro
 constructor
 ·apply tell_plain (N := 81) (n := 2) (hf := Tryz.func148) (hN := rfl) (hres := rfl) (hT := tellT) (hok := by rfl) (h4 := by decide) (hne := by decide) (hn := by decide) (hbody := rfl)
  apply twhole_seq
  ·apply tell_str (i := 0) (o := 0) (eb := 5) tellT
   ·kernel_rfl
   ·kernel_rfl
   ·kernel_rfl
   ·rfl
   ·rfl
   ·decide
  ·apply twhole_list (i := 1) (E := (structT GListOffsetsRequest_t221))
   ·apply nul_list (i := 1) (o := 1) tellT
    ·kernel_rfl
    ·kernel_rfl
    ·kernel_rfl
    ·kernel_rfl
    ·kernel_rfl
    ·rfl
    ·rfl
    ·decide
    ·decide
   ·apply loop_list (i := 1) (o := 1)
    ·apply app0_call (es := 250) tellT
     ·exact hGListOffsetsRequest_t221
     ·kernel_rfl
     ·rfl
     ·rfl
     ·kernel_rfl
     ·kernel_rfl
     ·kernel_rfl
     ·rfl
     ·kernel_rfl
     ·rfl
     ·decide
     ·decide
    ·apply app1_call (es := 250) tellT
     ·exact hGListOffsetsRequest_t221
     ·kernel_rfl
     ·rfl
     ·rfl
     ·kernel_rfl
     ·kernel_rfl
     ·kernel_rfl
     ·rfl
     ·kernel_rfl
     ·rfl
     ·decide
     ·decide
    ·rfl
    ·exact ⟨.bool false, by kernel_rfl, rfl⟩
    ·kernel_rfl
    ·kernel_rfl
    ·kernel_rfl
    ·kernel_rfl
    ·kernel_rfl
    ·rfl
    ·rfl
    ·rfl
   ·exact twhole_tags tellT tagT rfl (by kernel_rfl) (by rfl) (by kernel_rfl) (by kernel_rfl) (by kernel_rfl) each_spec sorted_spec (clo_rule Tryz.func222 rfl rfl tagT rfl)
 ·refine pres_leaf ?_
  refine pres_cons (E := listT (structT GListOffsetsRequest_t221)) (presF_list (presE_struct hPListOffsetsRequest_t221)) ?_
  exact pres_nil
set_option maxRecDepth 100000 in
theorem tell_ListOffsetsRequest : ∃ G, TellC Tryz.prog 90 sListOffsetsRequest G /\ LeafG (Zg) G 1 := by
 obtain ⟨GListOffsetsRequest_t148, hGListOffsetsRequest_t148, hPListOffsetsRequest_t148⟩ := tell_ListOffsetsRequest_t148
 apply Exists.intro
 constructor
 ·apply tell_plain (N := 99) (n := 4) (hf := Tryz.func90) (hN := rfl) (hres := rfl) (hT := tellT) (hok := by rfl) (h4 := by decide) (hne := by decide) (hn := by decide) (hbody := rfl)
  apply twhole_seq
  ·apply tell_num (i := 1) (o := 1) (kd := .i32) tellT
   ·kernel_rfl
   ·kernel_rfl
   ·exact kd_i32
   ·kernel_rfl
   ·kernel_rfl
   ·rfl
   ·rfl
   ·decide
  ·apply twhole_seq
   ·apply tell_num (i := 2) (o := 2) (kd := .i8) tellT
    ·kernel_rfl
    ·kernel_rfl
    ·exact kd_i8
    ·kernel_rfl
    ·kernel_rfl
    ·rfl
    ·rfl
    ·decide
   ·apply twhole_list (i := 3) (E := (structT GListOffsetsRequest_t148))
    ·apply nul_list (i := 3) (o := 3) tellT
     ·kernel_rfl
     ·kernel_rfl
     ·kernel_rfl
     ·kernel_rfl
     ·kernel_rfl
     ·rfl
     ·rfl
     ·decide
     ·decide
    ·apply loop_list (i := 3) (o := 3)
     ·apply app0_call (es := 172) tellT
      ·exact hGListOffsetsRequest_t148
      ·kernel_rfl
      ·rfl
      ·rfl
      ·kernel_rfl
      ·kernel_rfl
      ·kernel_rfl
      ·rfl
      ·kernel_rfl
      ·rfl
      ·decide
      ·decide
     ·apply app1_call (es := 172) tellT
      ·exact hGListOffsetsRequest_t148
      ·kernel_rfl
      ·rfl
      ·rfl
      ·kernel_rfl
      ·kernel_rfl
      ·kernel_rfl
      ·rfl
      ·kernel_rfl
      ·rfl
      ·decide
      ·decide
     ·rfl
     ·exact ⟨.bool false, by kernel_rfl, rfl⟩
     ·kernel_rfl
     ·kernel_rfl
     ·kernel_rfl
     ·kernel_rfl
     ·kernel_rfl
     ·rfl
     ·rfl
     ·rfl
    ·apply twhole_seq
     ·apply tell_num (i := 4) (o := 4) (kd := .i32) tellT
      ·kernel_rfl
      ·kernel_rfl
      ·exact kd_i32
      ·kernel_rfl
      ·kernel_rfl
      ·rfl
      ·rfl
      ·decide
     ·exact twhole_tags tellT tagT rfl (by kernel_rfl) (by rfl) (by kernel_rfl) (by kernel_rfl) (by kernel_rfl) each_spec sorted_spec (clo_rule Tryz.func149 rfl rfl tagT rfl)
 ·refine leafG_leaf ?_
  refine leafG_leaf ?_
  refine leafG_cons (E := listT (structT GListOffsetsRequest_t148)) (by decide) ?_
  refine leafG_leaf ?_
  exact leafG_nil
abbrev D_ListOffsetsRequest : SV -> SV := fun v => ((((v).1.set 1 (.num (-1)), (v).2)).1.set 4 (.num (30000)), (((v).1.set 1 (.num (-1)), (v).2)).2)
theorem doors_ListOffsetsRequest : ∃ ft v1 G, DoorC Tryz.prog 34 Zf ft v1 (fun v => G (D_ListOffsetsRequest v)) /\ WrI Zk ft v1 Zg /\ LeafG Zg G 1 := by
 obtain ⟨ft, hr, hw⟩ := read_ListOffsetsRequest
 obtain ⟨G, hG, hP⟩ := tell_ListOffsetsRequest
 refine ⟨ft, v_ListOffsetsRequest, G, ?_, hw, hP⟩
 exact doord_rule (d := D_ListOffsetsRequest) Tryz.func34 rfl rfl tellT rfl (by kernel_rfl) (by kernel_rfl) (by kernel_rfl) (by kernel_rfl) (by kernel_rfl) (by kernel_rfl) (by kernel_rfl) (eb := 5) (by kernel_rfl) (by kernel_rfl) new_ListOffsetsRequest set_ListOffsetsRequest (rf_rule Tryz.func88 rfl rfl rfl hr (by kernel_rfl)) hG d_sListOffsetsRequest (fun _ => rfl) (by decide)
end Go.Proofs.YtpecdnfmlodmaaaGreatDoorR
set_option linter.unusedSimpArgs false
set_option linter.unusedVariables false
namespace Go.Proofs.YtpecdnfmlodmaaaGreatDoorR
open Go Go.RowKit
theorem max_ListOffsetsRequest (w : World) : Calls Tryz.prog 32 #[] w fun e w' => e = .returned (.int .i64 (11 : Int)) /\ Mod none' w w' := by
 refine calls_of_wp Tryz.func32 rfl ?_
 refine wp_act (fun a : Act => a.tmps.size = 4 /\ a.defers = []) ⟨rfl, rfl⟩ ?_
 rintro a ⟨aN, ad⟩
 refine wp_seq (wp_region_lit (Zv rfl Zi (wpList_nil ?_)))
 refine wp_seq (wp_region_lit (wpl_call rfl (Zy (by kernel_rfl) rfl) (R := fun e w' => e = .returned (.pointer (some ⟨w.heap.size, 0, none⟩)) /\ Mod none' w w' /\ w.heap.size < w'.heap.size /\ Cur sListOffsetsRequest none' w.heap.size 0 v_ListOffsetsRequest w') (by simpa using new_ListOffsetsRequest w) ?_))
 rintro e w1 ⟨rfl, m1, _, _⟩
 refine ⟨_, rfl, wpl_call rfl (Zy (by kernel_rfl) rfl) (R := fun e w' => e = .returned (.int .i16 11) /\ w1 = w') ?_ ?_⟩
 ·go_enter Tryz.func85, Tryz.ntmps85
  go_wp2
  go_ret
  exact ⟨rfl, rfl⟩
 rintro e w2 ⟨rfl, rfl⟩
 refine ⟨_, rfl, Zv rfl (x_convInt (n := 11) (k := .i16) (k' := .i64) (by kernel_rfl) (by kernel_rfl) ?_) (Zv rfl Zi (wpList_nil ?_))⟩
 ·simp (disch := first | omega | simp only [Zs]; omega) only [Zo, Ze, Zn, Zq]
 refine wp_act (c := .ret) (fun a : Act => Act.get a 0 = .int .i64 11 /\ a.defers = []) ⟨?_, ?_⟩ ?_
 ·simp (disch := first | omega | simp only [Zs]; omega) only [Zo, Ze, Zn, Zq]
  rfl
 ·simp only [Zd]; exact ad
 rintro a9 ⟨z0, zd⟩
 exact wp_ret (bodyPost_ret (results_tmp rfl _ _ _) zd ⟨congrArg Ending.returned z0, m1⟩)
set_option maxHeartbeats 4000000 in
set_option maxRecDepth 100000 in
theorem spec_sListOffsetsRequestTopicPartition (w : World) : Calls Tryz.prog 146 #[] w fun e w' => ∃ k, e = .returned (.slice (some ⟨k, 0, none⟩) 4 4) /\ Mod none' w w' /\ ∀ W, Mod (fun k => k < w.heap.size) w' W -> FdsI W (.slice (some ⟨k, 0, none⟩) 4 4) ([.mk 3 0 (-1) (-1) (-1) 0 0 [], .mk 3 4 (-1) (-1) (-1) (-1) 0 [], .mk 4 0 (-1) (-1) (-1) 0 0 [], .mk 3 0 0 (-1) (-1) 1 0 []]) := by
 go_enter Tryz.func146, Tryz.ntmps146
 go_wp2
 go_ret
 exact ⟨_, rfl, (Mod.refl w).alloc _, fun W hW => FdsI.of (fs := [.mk 3 0 (-1) (-1) (-1) 0 0 [], .mk 3 4 (-1) (-1) (-1) (-1) 0 [], .mk 4 0 (-1) (-1) (-1) 0 0 [], .mk 3 0 0 (-1) (-1) 1 0 []]) [.slice none 0 0, .slice none 0 0, .slice none 0 0, .slice none 0 0] (hW.some (Zh w _) (Nat.not_lt.2 (Nat.le_refl _))) rfl (by decide) rfl ⟨FdsI.none' _, FdsI.none' _, FdsI.none' _, FdsI.none' _, trivial⟩⟩
set_option maxHeartbeats 4000000 in
set_option maxRecDepth 100000 in
theorem spec_sListOffsetsRequestTopic (w : World) : Calls Tryz.prog 86 #[] w fun e w' => ∃ k, e = .returned (.slice (some ⟨k, 0, none⟩) 2 2) /\ Mod none' w w' /\ ∀ W, Mod (fun k => k < w.heap.size) w' W -> FdsI W (.slice (some ⟨k, 0, none⟩) 2 2) ([.mk 8 0 (-1) (-1) (-1) 0 0 [], .mk 11 0 (-1) (-1) (-1) 0 10 [.mk 3 0 (-1) (-1) (-1) 0 0 [], .mk 3 4 (-1) (-1) (-1) (-1) 0 [], .mk 4 0 (-1) (-1) (-1) 0 0 [], .mk 3 0 0 (-1) (-1) 1 0 []]]) := by
 go_enter Tryz.func86, Tryz.ntmps86
 go_wp2_with (first | (go_at_call 146; refine (spec_sListOffsetsRequestTopicPartition _).mono ?_; rintro e w1 ⟨k1, rfl, hm1, hf1⟩))
 go_ret
 exact ⟨_, rfl, ((Mod.refl w).trans hm1).alloc _, fun W hW => FdsI.of (fs := [.mk 8 0 (-1) (-1) (-1) 0 0 [], .mk 11 0 (-1) (-1) (-1) 0 10 [.mk 3 0 (-1) (-1) (-1) 0 0 [], .mk 3 4 (-1) (-1) (-1) (-1) 0 [], .mk 4 0 (-1) (-1) (-1) 0 0 [], .mk 3 0 0 (-1) (-1) 1 0 []]]) [.slice none 0 0, .slice (some ⟨k1, 0, none⟩) 4 4] (hW.some (Zh w1 _) (Nat.not_lt.2 (hm1.size))) rfl (by decide) rfl ⟨FdsI.none' _, hf1 _ (Mod.trans' ((Mod.refl (S := none') _).alloc _) hW (fun _ _ f => f.elim) (fun i _ h => Nat.lt_of_lt_of_le h (Nat.le_refl _))), trivial⟩⟩
set_option maxHeartbeats 4000000 in
set_option maxRecDepth 100000 in
theorem spec_ListOffsetsRequest (w : World) : Calls Tryz.prog 33 #[] w fun e w' => ∃ v, e = .returned (.agg #[v, .int .i64 6]) /\ Mod none' w w' /\ FdsI w' v Zg := by
 go_enter Tryz.func33, Tryz.ntmps33
 go_wp2_with (first | (go_at_call 86; refine (spec_sListOffsetsRequestTopic _).mono ?_; rintro e w1 ⟨k1, rfl, hm1, hf1⟩; have hx1 : w1.heap[w.heap.size]? = some (.cells #[.slice none 0 0, .int .i64 0] 31 (0, 0)) := hm1.some (Zh w _) (fun f => f); have qa1 : w1.cell? ⟨w.heap.size, 0, none⟩ = some (.slice none 0 0) := (Zc hx1).trans rfl; have qb1 : w1.cell? ⟨w.heap.size, 1, none⟩ = some (.int .i64 0) := (Zc hx1).trans rfl; have qc1 : w1.frozen? ⟨w.heap.size, 0, none⟩ = false := (Zz hx1).trans rfl; have qd1 : w1.frozen? ⟨w.heap.size, 1, none⟩ = false := (Zz hx1).trans rfl; have qs1 : w.heap.size < w1.heap.size := lt_of_block hx1; have hb1 := Lib.hid hx1; clear hx1))
 obtain ⟨hA, hB, hM⟩ := spec_end (y0 := .slice (some ⟨w1.heap.size, 0, none⟩) 4 4) (y1 := .int .i64 6) (cells := #[.int .i64 3, .int .i64 0, .int .i64 (-1), .int .i64 (-1), .int .i64 (-1), .int .i64 (-1), .int .i64 0, .slice none 0 0, .int .i64 1, .int .i64 2, .int .i64 (-1), .int .i64 (-1), .int .i64 (-1), .int .i64 0, .int .i64 0, .slice none 0 0, .int .i64 11, .int .i64 0, .int .i64 (-1), .int .i64 (-1), .int .i64 (-1), .int .i64 0, .int .i64 10, .slice (some ⟨k1, 0, none⟩) 2 2, .int .i64 3, .int .i64 10, .int .i64 (-1), .int .i64 (-1), .int .i64 (-1), .int .i64 30000, .int .i64 0, .slice none 0 0]) (T := 56) hb1.out
 refine bodyPost_ret (results_cellN rfl (b := w.heap.size) (o := 0) (cs := [.slice (some ⟨w1.heap.size, 0, none⟩) 4 4, .int .i64 6]) rfl (by kernel_rfl) (fun j u hu => by rw [Zc hA, Nat.zero_add]; simpa using hu)) rfl
  ⟨_, rfl, Mod.trans' (((Mod.refl w).alloc _).trans hm1) hM (fun _ _ f => f) (fun j hj e => by have : j = w.heap.size := e; omega), FdsI.of (fs := Zg) [.slice none 0 0, .slice none 0 0, .slice (some ⟨k1, 0, none⟩) 2 2, .slice none 0 0] hB rfl (by decide) rfl ⟨FdsI.none' _, FdsI.none' _, hf1 _ (Mod.trans' (Mod.refl (S := none') w1) hM (fun _ _ f => f.elim) (fun i _ e => by have e1 : i = w.heap.size := e; show i < (World.alloc _ _).heap.size; simp; omega)), FdsI.none' _, trivial⟩⟩
theorem head_ListOffsetsRequest {f : FD} {r fs : List FD} {ver : Int} {fl : Bool} {t : Tr} (hf : fs = f :: r) (h : (decide (f.tag < 0) && f.has ver) = true) (hk : (leafK f.kind || decide (f.kind = 11)) = true) : 1 <= (fieldsW fs 0 ver fl t).length := by
 subst hf
 simp only [fieldsW, List.length_append]
 rw [if_pos h]
 have := fieldW_pos (f := f) (ver := ver) (fl := fl) (t := t.L.getD 0 .zero) hk
 omega
set_option maxHeartbeats 1000000 in
set_option maxRecDepth 20000 in
theorem law_ListOffsetsRequest {w : World} {n : Int} {ct : Array Value} {t : Tr} {ev : Value} (hn : 0 <= n /\ n <= 255) (hE : ErrIs w ev) (hev : ∃ tx vx, ev = .iface tx vx) (hct : ct.size = 5) (ht : TreeI w (from' ct 0) t) (hlen : ∀ ver fl, (partW Zg ver fl t).length <= 4294967295) :
    Calls Tryz.prog 8 #[.int .u8 n, .agg ct] w fun e w' => e = .returned (.bool true) /\ Mod none' w w' := by
  obtain ⟨ft, V0, G, hd1, hwr, hlg⟩ := doors_ListOffsetsRequest
  refine calls_of_wp Tryz.func8 rfl ?_
  show Code.wp _ _ _ { tmps := (#[.int .u8 n, .agg ct] : Array Value) ++ Array.replicate (37 - (#[.int .u8 n, .agg ct] : Array Value).size) undef, defers := [] } w
  refine wp_act (fun a : Act => Act.get a 0 = .int .u8 n /\ Act.get a 1 = .agg ct /\ a.tmps.size = 37 /\ a.defers = []) ⟨?_, ?_, ?_, rfl⟩ ?_
  · rw [Zj _ _ _ (by simp)]; rfl
  · rw [Zj _ _ _ (by simp)]; rfl
  · simp
  rintro a ⟨a0, a1, aN, ad⟩
  refine wp_seq (wp_region_lit (Zv rfl x_box (Zv rfl Zi (wpList_nil ?_))))
  rw [show (a.eval (.tmp 1)).cells = ct from by rw [Ze, a1]; rfl]
  have b3 := Zh w (.cells ct 26)
  have m0 : Mod none' w (w.alloc (.cells ct 26)) := (Mod.refl w).alloc _
  generalize w.alloc (.cells ct 26) = w0 at *
  obtain ⟨x3, hx3⟩ : ∃ x, x = w.heap.size := ⟨_, rfl⟩
  rw [<- hx3] at b3 ⊢
  refine wp_act (fun a : Act => Act.get a 0 = .int .u8 n /\ Act.get a 3 = .pointer (some ⟨x3, 0, none⟩) /\ a.tmps.size = 37 /\ a.defers = []) ⟨?_, ?_, ?_, ?_⟩ ?_
  · simp (disch := first | omega | simp only [Zs]; omega) only [Zo, Ze, Zn, Zq, a0]
  · simp (disch := first | omega | simp only [Zs]; omega) only [Zo, Ze, Zn, Zq]
  · simp only [Zs]; exact aN
  · simp only [Zd]; exact ad
  clear a0 a1 aN ad
  rintro a ⟨a0, a3, aN, ad⟩
  refine wp_seq (wp_seq (wp_region_lit (Zv rfl (x_loadN (cs := ct.toList) (b := x3) (o := 0) (by rw [Array.length_toList, hct]; kernel_rfl) ?_ ?_) (wpl_call rfl (Zy (by kernel_rfl) rfl) (R := SomeBool w0) ?_ ?_))))
  · simp (disch := first | omega | simp only [Zs]; omega) only [Zo, Ze, Zn, Zq, a3]
  · intro j u hu
    rw [Zc b3, Nat.zero_add]; simpa using hu
  · rw [show ∀ a : Act, (#[Operand.tmp 10] : Array Operand).map a.eval = #[Act.get a 10] from fun a => by simp [Ze]]
    simp (disch := first | omega | simp only [Zs]; omega) only [Zo, Ze, Zn, Zq, Array.toArray_toList]
    exact zz1_c hct (ht.mod m0)
  rintro e w1 ⟨b, rfl, m1⟩
  refine ⟨_, rfl, Zv rfl (x_notV (b := b) (c := !b) ?_ rfl) (wpList_nil ?_)⟩
  · simp (disch := first | omega | simp only [Zs]; omega) only [Zo, Ze, Zn, Zq]
  cases b with
  | false =>
    refine wp_cond_true ?_ (wp_seq (wp_region_lit (Zv rfl Zi (wpList_nil (wp_ret ?_)))))
    · simp (disch := first | omega | simp only [Zs]; omega) only [Zo, Ze, Zn, Zq]
      rfl
    · simp only [Exit.then]
      refine bodyPost_ret (results_tmp rfl _ _ _) ?_ ⟨?_, m0.trans m1⟩
      · simp only [Zd]; exact ad
      · rw [show ∀ (a : Act), a.tmps.getD 4 undef = Act.get a 4 from fun _ => rfl]
        simp (disch := first | omega | simp only [Zs]; omega) only [Zo, Ze, Zn, Zq]
        rfl
  | true =>
  refine wp_cond_false ?_ (wp_skip ?_)
  · simp (disch := first | omega | simp only [Zs]; omega) only [Zo, Ze, Zn, Zq]
    rfl
  refine wp_act (fun a : Act => Act.get a 0 = .int .u8 n /\ Act.get a 3 = .pointer (some ⟨x3, 0, none⟩) /\ a.tmps.size = 37 /\ a.defers = []) ⟨?_, ?_, ?_, ?_⟩ ?_
  · simp (disch := first | omega | simp only [Zs]; omega) only [Zo, Ze, Zn, Zq, a0]
  · simp (disch := first | omega | simp only [Zs]; omega) only [Zo, Ze, Zn, Zq, a3]
  · simp only [Zs]; exact aN
  · simp only [Zd]; exact ad
  clear a0 a3 aN ad
  rintro a ⟨a0, a3, aN, ad⟩
  refine wp_seq (wp_region_lit (wpl_call rfl (Zy (by kernel_rfl) rfl) (R := fun e w' => e = .returned (.int .i64 (11 : Int)) /\ Mod none' w1 w') (by simpa using max_ListOffsetsRequest w1) ?_))
  rintro e w2 ⟨rfl, m2⟩
  refine ⟨_, rfl, Zv rfl Zi (wpList_nil ?_)⟩
  refine wp_seq (wp_seq (wp_region_lit (Zv rfl Zm (Zv rfl (x_lss (k := .i64) (m := 11) (n := 0) ?_ rfl) (wpList_nil ?_)))))
  · simp (disch := first | omega | simp only [Zs]; omega) only [Zo, Ze, Zn, Zq]
  refine wp_cond_false ?_ (wp_skip ?_)
  · simp (disch := first | omega | simp only [Zs]; omega) only [Zo, Ze, Zn, Zq]
    rfl
  refine wp_act (fun a : Act => Act.get a 0 = .int .u8 n /\ Act.get a 3 = .pointer (some ⟨x3, 0, none⟩) /\ Act.get a 5 = .int .i64 11 /\ a.tmps.size = 37 /\ a.defers = []) ⟨?_, ?_, ?_, ?_, ?_⟩ ?_
  · simp (disch := first | omega | simp only [Zs]; omega) only [Zo, Ze, Zn, Zq, a0]
  · simp (disch := first | omega | simp only [Zs]; omega) only [Zo, Ze, Zn, Zq, a3]
  · simp (disch := first | omega | simp only [Zs]; omega) only [Zo, Ze, Zn, Zq]
  · simp only [Zs]; exact aN
  · simp only [Zd]; exact ad
  clear a0 a3 aN ad
  rintro a ⟨a0, a3, a5, aN, ad⟩
  have hv : IntKind.i64.wrap ((11 : Int) + 1) ≠ 0 := by decide
  obtain ⟨k, hk⟩ : ∃ k, k = (IntKind.i64.wrap n).tmod (IntKind.i64.wrap ((11 : Int) + 1)) := ⟨_, rfl⟩
  have hver : ∀ w, Calls Tryz.prog 14 #[.int .u8 n, .int .i64 11] w fun e w' => e = .returned (.int .i64 k) /\ w = w' := fun w => by rw [hk]; exact version_spec hv w
  have hkr : 0 <= k /\ k <= 11 := by
    have e1 : IntKind.i64.wrap n = n := by rw [IntKind.wrap_i64]; omega
    have e2 : IntKind.i64.wrap ((11 : Int) + 1) = 11 + 1 := by decide
    rw [hk, e1, e2, Int.tmod_eq_emod_of_nonneg hn.1]
    omega
  clear hk
  have hk16 : IntKind.i16.wrap k = k := by
    simp only [IntKind.wrap, IntKind.bits, IntKind.signed]; simp; split <;> omega
  -- the fields
  refine wp_seq (wp_region_lit (wpl_call rfl (Zy (by kernel_rfl) rfl) (R := fun e w' => ∃ v, e = .returned (.agg #[v, .int .i64 6]) /\ Mod none' w2 w' /\ FdsI w' v Zg) (by simpa using spec_ListOffsetsRequest w2) ?_))
  rintro e w3 ⟨v, rfl, m3, hfs⟩
  obtain ⟨fa, fcap, hfv⟩ := hfs.slice
  subst hfv
  refine ⟨_, rfl, Zv rfl Zm (Zv rfl Zm (wpl_call rfl (Zy (by kernel_rfl) rfl) (R := fun e w' => e = .returned (.int .i64 k) /\ w3 = w') ?_ ?_))⟩
  · rw [show ∀ a : Act, (#[Operand.tmp 17, Operand.tmp 18] : Array Operand).map a.eval = #[Act.get a 17, Act.get a 18] from fun a => by simp [Ze]]
    simp (disch := first | omega | simp only [Zs]; omega) only [Zo, Ze, Zn, Zq, a0, a5]
    exact hver w3
  rintro e w' ⟨rfl, rfl⟩
  refine ⟨_, rfl, Zv rfl (x_alloc zeroMsg) (wpl_skip rfl (x_storeN (cs := #[.slice fa Zg.length fcap, .int .i64 6]) (b := w3.heap.size) (o := 0) (by kernel_rfl) ?_ ?_ (by simp [Value.oneCell']) (there_new rfl)) (Zv rfl Zi (wpList_nil ?_)))⟩
  · simp (disch := first | omega | simp only [Zs]; omega) only [Zo, Ze, Zn, Zq]
  · simp (disch := first | omega | simp only [Zs]; omega) only [Zo, Ze, Zn, Zq]
  obtain ⟨b6, m4⟩ := store_new w3 31 (zc := (Value.agg #[.slice none 0 0, .int .i64 0]).cells) (cs := #[.slice fa Zg.length fcap, .int .i64 6]) rfl
  generalize (w3.alloc (.cells (Value.agg #[.slice none 0 0, .int .i64 0]).cells 31)).setCells w3.heap.size 0 (#[Value.slice fa Zg.length fcap, .int .i64 6] : Array Value).toList = w4 at *
  obtain ⟨x6, hx6⟩ : ∃ x, x = w3.heap.size := ⟨_, rfl⟩
  rw [<- hx6] at b6 ⊢
  refine wp_act (fun a : Act => Act.get a 3 = .pointer (some ⟨x3, 0, none⟩) /\ Act.get a 6 = .pointer (some ⟨x6, 0, none⟩) /\ Act.get a 7 = .int .i64 k /\ a.tmps.size = 37 /\ a.defers = []) ⟨?_, ?_, ?_, ?_, ?_⟩ ?_
  · simp (disch := first | omega | simp only [Zs]; omega) only [Zo, Ze, Zn, Zq, a3]
  · simp (disch := first | omega | simp only [Zs]; omega) only [Zo, Ze, Zn, Zq]
  · simp (disch := first | omega | simp only [Zs]; omega) only [Zo, Ze, Zn, Zq]
  · simp only [Zs]; exact aN
  · simp only [Zd]; exact ad
  clear a0 a3 a5 aN ad
  rintro a ⟨a3, a6, a7, aN, ad⟩
  have m04 := ((m1.trans m2).trans m3).trans m4
  have b3' := m04.some b3 (fun f => f)
  have ht4 := (ht.mod m0).mod m04
  have hfs4 := hfs.mod m4
  have hE4 := (hE.mod m0 (fun f => f)).mod m04 (fun f => f)
  -- written and told
  refine wp_seq (wp_region_lit (Zv rfl Zm (Zv rfl (x_loadN (cs := [.slice fa Zg.length fcap, .int .i64 6]) (b := x6) (o := 0) (by kernel_rfl) ?_ ?_) (Zv rfl Zm (Zv rfl (x_loadN (cs := ct.toList) (b := x3) (o := 0) (by rw [Array.length_toList, hct]; kernel_rfl) ?_ ?_)
    (wpl_call rfl (Zy (by kernel_rfl) rfl) (R := fun e w' => ∃ v, e = .returned v /\ Mod none' w4 w' /\ OwnB w' w4.heap.size v (partW Zg k (flexW 6 k) t)) ?_ ?_))))))
  · simp (disch := first | omega | simp only [Zs]; omega) only [Zo, Ze, Zn, Zq, a6]
  · intro j u hu
    rw [Zc b6, Nat.zero_add]; simpa using hu
  · simp (disch := first | omega | simp only [Zs]; omega) only [Zo, Ze, Zn, Zq, a3]
  · intro j u hu
    rw [Zc b3', Nat.zero_add]; simpa using hu
  · rw [show ∀ a : Act, (#[Operand.tmp 22, Operand.tmp 23, Operand.tmp 24] : Array Operand).map a.eval = #[Act.get a 22, Act.get a 23, Act.get a 24] from fun a => by simp [Ze]]
    simp (disch := first | omega | simp only [Zs]; omega) only [Zo, Ze, Zn, Zq, a7, Array.toArray_toList]
    exact write_c (by decide) hfs4 hct ht4 (hlen _ _)
  rintro e w5 ⟨bv, rfl, m5, hown⟩
  obtain ⟨bs, hbs⟩ : ∃ bs, bs = partW Zg k (flexW 6 k) t := ⟨_, rfl⟩
  have hlb : bs.length <= 4294967295 := hbs ▸ hlen _ _
  have hflx : Zf k = flexW 6 k := by
    simp only [Zf, flexW]
    first | rfl | (rw [Bool.eq_iff_iff]; simp)
  have hpos : 1 <= bs.length := by
    rw [hbs, partW, List.length_append]
    first
      | (have := fieldsW_pos (fl := flexW 6 k) (t := t) hkr.1 Zg 0 (by decide); omega)
      | (cases hfx : flexW 6 k with
         | true =>
           have := uvE_pos (unkW t.U).length
           simp only [if_true, tagsW, List.length_append]; omega
         | false =>
           have hk6 : k < 6 := by simp only [flexW] at hfx; simp at hfx; omega
           refine Nat.le_trans (head_ListOffsetsRequest (fs := Zg) (fl := false) (t := t) rfl ?_ ?_) (Nat.le_add_right _ _)
           · simp [FD.tag, FD.has, FD.from_, FD.to]; exact ⟨decide_eq_true (by omega), decide_eq_true (by omega)⟩
           · decide)
  have hne : bs.isEmpty = false := by cases bs <;> simp at hpos ⊢
  obtain ⟨xs, hread, htold⟩ := hwr k (flexW 6 k) t [] ⟨hkr.1, hkr.2, hflx.symm⟩ ht.ok
  rw [List.append_nil, <- hbs] at hread
  have hd := hd1 k bv bs ev w5 (hE4.mod m5 (fun f => f)) hev (hbs ▸ hown.srcs) hlb (by rw [hk16, hflx, hne, hread]; exact fun h => by cases h)
  rw [hk16, hflx, hne, hread] at hd
  refine ⟨_, rfl, wpl_call rfl (Zy (by kernel_rfl) rfl) (R := fun e w' => ∃ cs ok, e = .returned (.tuple #[.agg cs, .bool ok]) /\ Mod none' w5 w' /\ cs.size = 5 /\ cs.all (·.oneCell') = true /\
      (ok = !false /\ (ok = true -> TreeR w' (From w5) (from' cs 0) (.part (G (D_ListOffsetsRequest (.num k :: xs, if flexW 6 k = true then cutW (unkW t.U) else []))) (if flexW 6 k = true then cutW (unkW t.U) else []))))) ?_ ?_⟩
  · rw [show ∀ a : Act, (#[Operand.tmp 21, Operand.tmp 25] : Array Operand).map a.eval = #[Act.get a 21, Act.get a 25] from fun a => by simp [Ze]]
    simp (disch := first | omega | simp only [Zs]; omega) only [Zo, Ze, Zn, Zq, a7]
    exact hd
  rintro e w6 ⟨cx, ok, rfl, m6, hcx, hcx1, hok, htr⟩
  obtain rfl : ok = true := hok
  have htr := htr rfl
  refine ⟨_, rfl, Zv rfl Zm (Zv rfl (x_extract (vs := #[.agg cx, .bool true]) (i := 0) (v := .agg cx) ?_ rfl) (Zv rfl (x_extract (vs := #[.agg cx, .bool true]) (i := 1) (v := .bool true) ?_ rfl) (Zv rfl (x_alloc zeroTr) (wpl_skip rfl (x_storeN (cs := cx) (b := w6.heap.size) (o := 0) (by rw [hcx]; kernel_rfl) ?_ ?_ hcx1 (there_new (by rw [hcx]; rfl))) (Zv rfl Zi (wpList_nil ?_))))))⟩
  · simp (disch := first | omega | simp only [Zs]; omega) only [Zo, Ze, Zn, Zq]
  · simp (disch := first | omega | simp only [Zs]; omega) only [Zo, Ze, Zn, Zq]
  · simp (disch := first | omega | simp only [Zs]; omega) only [Zo, Ze, Zn, Zq]
  · simp (disch := first | omega | simp only [Zs]; omega) only [Zo, Ze, Zn, Zq]
  obtain ⟨b8, m7⟩ := store_new w6 37 (zc := (Value.agg #[.int .i64 0, .slice none 0 0, .bool false, .slice none 0 0, .slice none 0 0]).cells) (cs := cx) (by rw [hcx]; rfl)
  generalize (w6.alloc (.cells (Value.agg #[.int .i64 0, .slice none 0 0, .bool false, .slice none 0 0, .slice none 0 0]).cells 37)).setCells w6.heap.size 0 cx.toList = w7 at *
  obtain ⟨x8, hx8⟩ : ∃ x, x = w6.heap.size := ⟨_, rfl⟩
  rw [<- hx8] at b8 ⊢
  refine wp_act (fun a : Act => Act.get a 3 = .pointer (some ⟨x3, 0, none⟩) /\ Act.get a 6 = .pointer (some ⟨x6, 0, none⟩) /\ Act.get a 7 = .int .i64 k /\ Act.get a 8 = .pointer (some ⟨x8, 0, none⟩) /\ Act.get a 9 = .bool true /\ a.tmps.size = 37 /\ a.defers = []) ⟨?_, ?_, ?_, ?_, ?_, ?_, ?_⟩ ?_
  · simp (disch := first | omega | simp only [Zs]; omega) only [Zo, Ze, Zn, Zq, a3]
  · simp (disch := first | omega | simp only [Zs]; omega) only [Zo, Ze, Zn, Zq, a6]
  · simp (disch := first | omega | simp only [Zs]; omega) only [Zo, Ze, Zn, Zq, a7]
  · simp (disch := first | omega | simp only [Zs]; omega) only [Zo, Ze, Zn, Zq]
  · simp (disch := first | omega | simp only [Zs]; omega) only [Zo, Ze, Zn, Zq]
  · simp only [Zs]; exact aN
  · simp only [Zd]; exact ad
  clear a3 a6 a7 aN ad
  rintro a ⟨a3, a6, a7, a8, a9, aN, ad⟩
  have m57 := (m5.trans m6).trans m7
  have hl1 : xs.length = 4 := (toldsW_at htold).1
  have hdf : DefsW Zg (G (D_ListOffsetsRequest (.num k :: xs, if flexW 6 k = true then cutW (unkW t.U) else []))) := by
    intro i hi hne
    have hx := hlg (D_ListOffsetsRequest (.num k :: xs, if flexW 6 k = true then cutW (unkW t.U) else [])) i hi
    have hi' : i = 0 \/ i = 1 \/ i = 2 \/ i = 3 := by simp at hi; omega
    rcases hi' with rfl | rfl | rfl | rfl
    · refine ⟨.inr (.inr (.inr (.inl rfl))), ?_⟩
      rw [hx rfl]
      simp [D_ListOffsetsRequest, List.getD, hl1]
      show ((-1) : Int) = numberW 3 (-1)
      first | rfl | decide | (simp [numberW]; done) | (simp [numberW, wrap32]; done) | (simp [numberW, wrap16]; done) | kernel_rfl
    · exact absurd rfl hne
    · exact absurd rfl hne
    · refine ⟨.inr (.inr (.inr (.inl rfl))), ?_⟩
      rw [hx rfl]
      simp [D_ListOffsetsRequest, List.getD, hl1]
      show (30000 : Int) = numberW 3 30000
      first | rfl | decide | (simp [numberW]; done) | (simp [numberW, wrap32]; done) | (simp [numberW, wrap16]; done) | kernel_rfl
  refine wp_seq (wp_mono (dflt_last aN a6 a8 a9 (m57.some b6 (fun f => f)) b8 hcx (htr.mod m7 (fun _ _ f => f) (fun _ _ => trivial))
    (fun W cg hm hc hx => defaults_c (fun f hf => mem_dok (fs := Zg) (by decide) f hf) ((hfs4.mod m57).mod hm) hc hx hdf)) ?_)
  rintro e a' w8 ⟨rfl, m8, h4, hd4⟩
  exact wp_ret (bodyPost_ret (results_tmp rfl _ _ _) (hd4.trans ad) ⟨congrArg Ending.returned h4, ((m0.trans m04).trans m57).trans m8⟩)
end Go.Proofs.YtpecdnfmlodmaaaGreatDoorR
set_option linter.unusedSimpArgs false
set_option linter.unusedVariables false
namespace Go.Proofs.YtpecdnfmlodmaaaGreatDoorR.CListOffsetsRequest
open Go Go.ChangeShapes Go.WideShapes Go.ChangeAt Go.RowKit Go.Proofs.YtpecdnfmlodmaaaGreatDoorR
theorem goesBy_of {c : OpenClaim} {P : Program} {f : FuncId} (hs : c.start = .entering) (hn : P.funcNamed c.func = some f) (hg : P.goes f = false) : false = c.goesBy P := by
 simp [OpenClaim.goesBy, Program.goesAt, Program.goesFrom, hs, hn, hg]
section
variable {H : Type} {enc : TypeId × Value -> H} {P : Program}
theorem post_of_below' {f : Func} {s : ChangeSpec} {apart fresh handsOn again : Bool} {W W' : World} {args : Array Value} {v : Value} {ds gs : List (DataW H)} {before pa pv : List MemPlace}
  (hW : DataW.Whole enc P f.params.toList s.vars apart W args.toList ds gs before)
  (hres : ∀ (b : Nat) (sp : Nat -> Bool) (hd : Bool), DataW.TrodAll enc P W' b sp hd f.resultTypes.toList (v.resultList f.resultTypes.size) (s.fn H (ds ++ gs)).results [])
  (hargs : ∀ sp : Nat -> Bool, (∀ p ∈ before, sp p.block = true) -> DataW.TrodAll enc P W' 0 sp true f.params.toList args.toList (s.fn H (ds ++ gs)).args pa)
  (hvars : ∀ sp : Nat -> Bool, (∀ p ∈ before, sp p.block = true) -> DataW.TrodVars enc P W' sp s.vars (s.fn H (ds ++ gs)).vars pv)
  (hps : before = pa ++ pv) (hb : Below W.heap.size W W')
  (hok : ∀ (j : Nat) (t : TypeId) (r : Value), f.resultTypes[j]? = some t -> (v.resultList f.resultTypes.size)[j]? = some r -> Value.okWide P W' .any 0 t r) :
  s.post enc P f apart fresh handsOn again W args v W' := by
 have hlt : ∀ p ∈ before, p.block < W.heap.size := fun p hp => hW.lt p hp
 have hold : ∀ p ∈ before, (fun b => decide (b < W.heap.size)) p.block = true := fun p hp => by simpa using hlt p hp
 refine ⟨ds, gs, before, [], pa, pv, hW, hres _ _ _, hargs _ hold, hvars _ hold, World.keptBut_mono (fun p hp => ⟨hp, ?_⟩) (hb.frame (· ∈ before)), fun _ => ?_⟩
 ·rw [hps, List.mem_append] at hp
  exact Or.inr hp
 ·obtain ⟨_, _, _, _, _, hz, hn⟩ := hW
  refine ⟨hok, _, _, ([] ++ pa) ++ pv, ⟨[] ++ pa, pv, trodAll_append (hargs _ (fun _ _ => rfl)) (hres _ _ _), hvars _ (fun _ _ => rfl), rfl, ?_, ?_⟩, ?_⟩
  ·intro b off hp
   have hin : MemPlace.cell b off ∈ before := by rw [hps]; simpa using hp
   rw [hb.frozen (hlt _ hin)]
   exact hz b off hin
  ·intro ha
   have := hn ha
   rw [hps] at this
   simpa using this
  ·intro p hp _
   rw [hps]
   simpa using hp
end
theorem own : ownKnob Tryz.prog.godebug = none := by kernel_rfl
theorem gErrName : Tryz.prog.globalNamed "pub-mailsack/pub/kmsg/inner/kbin.ErrNotEnoughData" = some gErr := by kernel_rfl
theorem gErrType : (Tryz.prog.globals[gErr]?).map (·.type) = some 60 := by kernel_rfl
theorem star : "*" ++ "errors.errorString" = "*errors.errorString" := by decide
theorem rowOf (u : TypeId) (h : Tryz.prog.typeName? 3 u = some "*errors.errorString") : u = 301 :=
 typeName_ptr_named (nm := "errors.errorString") (by rw [star]; kernel_rfl) (by kernel_rfl) (by decide) u (by rw [star]; exact h)
theorem cellsE : Tryz.prog.cellsOf 319 = 1 := by kernel_rfl
theorem cellsS : Tryz.prog.cellsOf 9 = 1 := by kernel_rfl
/-- what the row's list gives -/
theorem errOf {W : World} (h : laidMetH Tryz.prog Rows.fnDefaultListOffsetsRequestUptoRow.laid W) : ∃ ev, ErrIs W ev /\ ∃ tx vx, ev = .iface tx vx := by
 obtain ⟨a0, s0, hv0, -, -, -⟩ := laid_sentinel (show laidMet Tryz.prog Rows.fnDefaultListOffsetsRequestUptoRow.laid W from h) gErrName gErrType Tryz.underlying60 rowOf Tryz.underlying301 Tryz.underlying319 rfl rfl Tryz.underlying9 cellsE cellsS
 exact ⟨_, by have h0 := World.var?_cell gErrName hv0 0; unfold ErrIs; simpa using h0, _, _, rfl⟩
theorem rowsFull : ∀ t e, t < Tryz.prog.types.size -> Tryz.prog.underlying t = some (.slice e) -> 0 < Tryz.prog.cellsOf e := slices_full_of Tryz.prog (by kernel_rfl)
theorem carryAll {H : Type} {enc : TypeId × Value -> H} {P : Program} {w w' : World} {base : Nat} {spare : Nat -> Bool} {held : Bool} : ∀ {ts : List TypeId} {vs : List Value} {ds : List (DataW H)} {ps : List MemPlace}, DataW.TrodAll enc P w base spare held ts vs ds ps -> (∀ p ∈ ps, w.sameAt w' p) -> DataW.TrodAll enc P w' base spare held ts vs ds ps
 | [], [], [], _, h, _ => h
 | _ :: _, _ :: _, _ :: _, _, ⟨p, q, ⟨n, h1⟩, h2, e⟩, hs => ⟨p, q, ⟨n, DataW.trod_carry n _ _ _ h1 (fun x hx => hs x (by rw [e]; exact List.mem_append_left _ hx))⟩, carryAll h2 (fun x hx => hs x (by rw [e]; exact List.mem_append_right _ hx)), e⟩
set_option maxRecDepth 100000 in
theorem contract (H : Type) (enc : TypeId × Value -> H) (W : World) (base : Nat) (args : Array Value) (ds gs : List (DataW H)) (before : List MemPlace)
  (hval : ∀ (j : Nat) t v, Tryz.f8.params[j]? = some t -> args[j]? = some v -> Value.okWide Tryz.prog W .any base t v)
  (hW : DataW.Whole enc Tryz.prog Tryz.f8.params.toList Rows.fnDefaultListOffsetsRequestSpec.vars false W args.toList ds gs before) (hL : laidMetH Tryz.prog Rows.fnDefaultListOffsetsRequestUptoRow.laid W)
  (hk : ∀ k, (Rows.OpenSpec.upto Rows.fnDefaultListOffsetsRequestSpec).cond = some k -> k H (ds ++ gs) = true) :
  Calls Tryz.prog 8 args W fun e W' => ∃ v, e = .returned v /\ Rows.fnDefaultListOffsetsRequestSpec.post enc Tryz.prog Tryz.f8 false true false false W args v W' := by
 have hW' := hW
 have hlt : ∀ p ∈ before, p.block < W.heap.size := fun p hp => hW.lt p hp
 obtain ⟨p, q, hA0, hV, rfl, hfz, hnd⟩ := hW
 have hA : DataW.TrodAll enc Tryz.prog W 0 (fun _ => true) true Tryz.f8.params.toList args.toList ds p := hA0
 rw [Tryz.params8] at hA hval
 have hAA := hA
 obtain ⟨v0, vs0, d0, ds0, p0, q0, hargs, rfl, rfl, h0, r0⟩ := trodAll_cons hA
 obtain ⟨v1, vs1, d1, ds1, p1, q1, rfl, rfl, rfl, h1, r1⟩ := trodAll_cons r0
 obtain ⟨rfl, rfl, rfl⟩ := trodAll_nil r1
 obtain rfl : args = #[v0, v1] := by cases args; simp_all
 obtain ⟨rfl, rfl⟩ := trodVars_none hV
 obtain ⟨n, rfl, rfl, rfl, hwn⟩ := open_int Tryz.underlying5 (hval 0 5 v0 rfl rfl) h0
 clear hA0
 obtain ⟨ev, hE, hev⟩ := errOf hL
 obtain ⟨ct, rfl, hct⟩ := okWide_struct Tryz.underlying26 (hval 1 26 v1 rfl rfl)
 rw [cellsTree] at hct
 obtain ⟨fuel, hf⟩ := h1
 obtain ⟨t, hti, hbulk⟩ := open_tree fuel _ _ hf
 have ht : TreeI W (from' ct 0) t := hti.congr (fun j hj => by simp [from', Value.cells, Array.getD, List.getD, hct, hj])
 have hn : 0 <= n /\ n <= 255 := by
  simp [Lit.wf, IntKind.min, IntKind.max, IntKind.signed, IntKind.bits] at hwn
  omega
 have hlen : ∀ ver fl, (partW Zg ver fl t).length <= 4294967295 := fun ver fl => upto_len (by decide) ht.ok (by have h3 : t.bulk <= Rows.uptoBulk d1 := hbulk; have h2 := of_decide_eq_true (hk _ rfl); simp only [List.append_nil, Rows.uptoBulkAll] at h2; omega)
 refine (law_ListOffsetsRequest hn hE hev hct ht hlen).mono fun e W' ⟨he, hm⟩ => ?_
 subst he
 refine ⟨_, rfl, post_of_below' (pv := []) hW' (fun _ _ _ => trodAll_cons_mk (shut_bool Tryz.underlying4 _) trodAll_mk0) (fun sp hsp => ?_) (fun _ _ => rfl) rfl hm.below
  (ok_one (by kernel_rfl) rfl (okWide_bool_mk Tryz.underlying4 _))⟩
 rw [Tryz.params8]
 refine carryAll (DataW.TrodAll.respare (kids_rows (by kernel_rfl) (by kernel_rfl)) rowsFull (by decide +kernel) hAA (fun x hx => hsp x (by simpa using hx))) (fun x hx => hm.below.same (hlt x (by simpa using hx)))
abbrev errText : ByteArray := { data := #[114, 101, 115, 112, 111, 110, 115, 101, 32, 100, 105, 100, 32, 110, 111, 116, 32, 99, 111, 110, 116, 97, 105, 110, 32, 101, 110, 111, 117, 103, 104, 32, 100, 97, 116, 97, 32, 116, 111, 32, 98, 101, 32, 118, 97, 108, 105, 100] }
noncomputable def lowB : Nat := (World.holding Tryz.prog default ⟨#[], #[], []⟩).heap.size
noncomputable def laidWorld (os : Os) : World :=
 let w0 := World.holding Tryz.prog os ⟨#[.cells #[.string errText] 319], #[], []⟩
 { w0 with heap := w0.heap.modify gErr fun
   | .cells _ t frozen => .cells #[.iface 301 (.pointer (some ⟨lowB, 0, none⟩))] t frozen
   | o => o }
abbrev wArgs : Array Value := #[.int .u8 0, .agg #[.int .i64 0, .slice none 0 0, .bool false, .slice none 0 0, .slice none 0 0]]
theorem laid_met (os : Os) : laidMet Tryz.prog Rows.fnDefaultListOffsetsRequestUptoRow.laid ((laidWorld os).forCall (fun _ _ => 0) ⟨#[], wArgs, []⟩).memory :=
 laidMet_of_run' 8 (by kernel_rfl) (by kernel_rfl)
theorem reads (os : Os) {H : Type} (enc : TypeId × Value -> H) : ∃ places, DataW.whole enc Tryz.prog ((laidWorld os).forCall (fun _ _ => 0) ⟨#[], wArgs, []⟩).memory Tryz.f8.params.toList Rows.fnDefaultListOffsetsRequestSpec.vars false wArgs.toList 8 = some ([.lit (.int .u8 0), .agg [.lit (.int .i64 0), .nil, .lit (.bool false), .nil, .nil]], [], places) :=
 ⟨[], by kernel_rfl⟩
set_option maxRecDepth 100000 in
theorem lifted (os : Os) (started : os.Started) (H : Type) (enc : TypeId × Value -> H) (F : Stop.Interp) :
  ReturnsInHanded {} Tryz.checked os 8 .any ((Rows.OpenSpec.upto Rows.fnDefaultListOffsetsRequestSpec).preRow enc Tryz.prog Tryz.f8 Rows.fnDefaultListOffsetsRequestUptoRow.domain false Rows.fnDefaultListOffsetsRequestUptoRow.laid) (((Rows.OpenSpec.upto Rows.fnDefaultListOffsetsRequestSpec).at F).post enc Tryz.prog Tryz.f8 false true false false) := by
 obtain ⟨places, hx⟩ := reads os enc
 refine returnsInHanded_of_row (C := Tryz.checked) (s := Rows.OpenSpec.upto Rows.fnDefaultListOffsetsRequestSpec) own started (by kernel_rfl) Tryz.func8
  (witness_row_at (enc := enc) (C := Tryz.checked) false (laidWorld os) wArgs rfl (by kernel_rfl) (by kernel_rfl) (by kernel_rfl)
   (OpenSpec.preRow_of_cond 8 hx (by kernel_rfl) (fun k hk => by first | (cases hk; kernel_rfl) | cases hk) (by kernel_rfl) (laid_met os))) ?_
 intro W base args ds gs before hval hW _ hk _ hL _ _
 exact contract H enc W base args ds gs before hval hW hL hk
set_option maxRecDepth 100000 in
theorem clo : Program.closure Tryz.prog 8 = [8, 11, 43, 105, 32, 84, 89, 85, 33, 86, 146, 14, 16, 50, 52, 51, 113, 118, 119, 189, 115, 116, 190, 57, 117, 114, 53, 56, 42, 34, 87, 88, 147, 166, 233, 214, 167, 234, 258, 168, 169, 170, 219, 172, 236, 235, 173, 177, 237, 174, 175, 220, 183, 238, 259, 184, 239, 90, 148, 221, 256, 110, 188, 187, 242, 243, 244, 245, 257, 270, 246, 271, 272, 279, 273, 280, 281, 274, 282, 283, 284, 275, 276, 277, 278, 112, 222, 149, 19, 35, 91] := by kernel_rfl
set_option maxRecDepth 100000 in
theorem eP : Program.inPlace Tryz.prog 8 = ["internal/reflectlite.ValueOf", "internal/reflectlite.Swapper", "(internal/reflectlite.Value).Len"] := by unfold Program.inPlace; rw [clo]; kernel_rfl
set_option maxRecDepth 100000 in
theorem eU : Program.unfollowed Tryz.prog 8 = true := by unfold Program.unfollowed; rw [clo]; kernel_rfl
theorem eR : Program.recurses Tryz.prog 8 = true := by unfold Program.recurses; rw [eU]; rfl
set_option maxRecDepth 100000 in
theorem eV : Program.varsNamed Tryz.prog 8 = ["encoding/binary.BigEndian", "pub-mailsack/pub/kmsg/inner/kbin.ErrNotEnoughData"] := by unfold Program.varsNamed; rw [clo]; kernel_rfl
set_option maxRecDepth 100000 in
theorem eG : Program.goes Tryz.prog 8 = false := by unfold Program.goes; rw [clo, eU]; kernel_rfl
set_option maxRecDepth 100000 in
theorem facts : joinedFacts Tryz.prog 8 Tryz.f8 (Rows.OpenSpec.upto Rows.fnDefaultListOffsetsRequestSpec).bare Rows.fnDefaultListOffsetsRequestUptoRow = true := by
 unfold joinedFacts
 rw [eP, eU, eR, eV]
 kernel_rfl
theorem said : Rows.FnDefaultListOffsetsRequestUptoSaid :=
 OpenClaim.holds_of_cond 8 Tryz.f8 rfl rfl rfl rfl rfl rfl rfl ⟨rfl, rfl, rfl, rfl, rfl⟩ rfl rfl rfl rfl rfl (by kernel_rfl) Tryz.func8 facts
  (of_decide_eq_true (by kernel_rfl)) (by unfold Func.isWrapper; first | (rw [if_pos (by decide +kernel)]; kernel_rfl) | (rw [if_neg (by decide +kernel)]; exact ⟨rfl, rfl⟩))
  (fun os started H enc _ F => by rw [OpenClaim.pre_eq_preRow]; exact lifted os started H enc F)
theorem plain (f : FuncId) (fn : Func) (hf : Tryz.pinned.checked.prog.funcNamed "pub-mailsack/laws.FnDefaultListOffsetsRequest" = some f) (hfn : Tryz.pinned.checked.prog.funcs[f]? = some fn) :
  false = Tryz.pinned.checked.prog.looks [] /\ ∀ (j : Nat) t, fn.params[j]? = some t -> Tryz.pinned.checked.prog.wantsStandIn t = false := by
 obtain rfl : f = 8 := Option.some.inj ((show Tryz.prog.funcNamed "pub-mailsack/laws.FnDefaultListOffsetsRequest" = some 8 by kernel_rfl).symm.trans hf) |>.symm
 obtain rfl : fn = Tryz.f8 := (Option.some.inj (Tryz.func8.symm.trans hfn)).symm
 refine ⟨by kernel_rfl, fun j t ht => ?_⟩
 rw [Tryz.params8] at ht
 have : t = 5 \/ t = 26 := by simpa using Array.mem_of_getElem? ht
 rcases this with rfl | rfl
 ·exact (show Tryz.prog.wantsStandIn 5 = false by kernel_rfl)
 ·exact (show Tryz.prog.wantsStandIn 26 = false by kernel_rfl)
theorem card : Rows.FnDefaultListOffsetsRequestUptoCardSaid :=
 Claim7.holds_tied_plain_at .later [] _ _ _ _ said (fun _ h => by cases h) (by kernel_rfl) (fun _ h => by cases h) fnDefaultListOffsetsRequestUpto_row_tie rfl ⟨rfl, rfl⟩ (by kernel_rfl) rfl plain (goesBy_of (P := Tryz.prog) (f := 8) rfl (by kernel_rfl) eG)
end Go.Proofs.YtpecdnfmlodmaaaGreatDoorR.CListOffsetsRequest
