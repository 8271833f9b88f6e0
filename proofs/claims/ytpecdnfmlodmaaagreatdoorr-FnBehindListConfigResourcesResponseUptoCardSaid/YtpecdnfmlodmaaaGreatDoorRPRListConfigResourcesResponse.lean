/-
  ListConfigResourcesResponse: how it is read.
-/
import Derived.Laws.IdiomCopy
import Derived.Test.YtpecdnfmlodmaaaGreatDoorRPWk
import Derived.Test.YtpecdnfmlodmaaaGreatDoorRPMsgT
set_option linter.unusedSimpArgs false
set_option linter.unusedVariables false
namespace Go.Proofs.YtpecdnfmlodmaaaGreatDoorR
open Go Go.RowKit
abbrev sListConfigResourcesResponse : St := ⟨10, .cons 0 (.int .i16) (.cons 1 (.int .i32) (.cons 2 (.int .i16) (.cons 3 (.list (.struct (.cons 0 .str (.cons 1 (.int .i8) .nil)) (some 2) 3) 3) .nil))), some 4, 5⟩
theorem d_sListConfigResourcesResponse : DfC Tryz.prog 153 sListConfigResourcesResponse (fun v => v) := by
 apply dfc_rule (N := 2) (hf := Tryz.func153) (hbody := rfl) (hN := rfl) (hres := rfl) (hN1 := by decide)
 exact dblk_skip
abbrev sListConfigResourcesResponse_1 : St := ⟨18, .cons 0 .str (.cons 1 (.int .i8) .nil), some 2, 3⟩
theorem d_sListConfigResourcesResponse_1 : DfC Tryz.prog 228 sListConfigResourcesResponse_1 (fun v => ((v).1.set 1 (.num (16)), (v).2)) := by
 apply dfc_rule (N := 5) (hf := Tryz.func228) (hbody := rfl) (hN := rfl) (hres := rfl) (hN1 := by decide)
 apply dblk_set (i := 1) (u := .num (16)) (hat := rfl) (hok := by rfl) (h1 := rfl) (hf := by kernel_rfl) (hsz := by kernel_rfl) (hval := rfl) (hrep := fun w F => by simp only [Rep]; exact ⟨_, rfl, by simp [fits, IntKind.min, IntKind.max, IntKind.signed, IntKind.bits], rfl⟩) (hs := by rfl)
abbrev v_ListConfigResourcesResponse : SV := (Lay.zeroL sListConfigResourcesResponse.lay, ([] : Tags))
abbrev Zf : Int -> Bool := (fun ver => decide ((0 : Int) <= ver))
abbrev Zg : List FD := [.mk 3 0 (-1) (-1) (-1) 0 0 [], .mk 2 0 (-1) (-1) (-1) 0 0 [], .mk 11 0 (-1) (-1) (-1) 0 10 [.mk 8 0 (-1) (-1) (-1) 0 0 [], .mk 1 1 (-1) (-1) (-1) 16 0 []]]
abbrev Zk : OkV := fun ver fl => 0 <= ver /\ ver <= 1 /\ fl = Zf ver
set_option maxRecDepth 100000 in
theorem read_ListConfigResourcesResponse : ∃ ft, ReadC Tryz.prog 154 sListConfigResourcesResponse Zf ft /\ WrI Zk ft v_ListConfigResourcesResponse Zg := by
 apply Exists.intro
 constructor
 ·apply read_flex (m := 21) (N := 107) (hf := Tryz.func154) (hN := rfl) (hres := rfl) (hR := rdT) (h16 := by kernel_rfl) (hver := by kernel_rfl) (hlay := rfl) (hsz := rfl) (hs := rfl) (hm := by decide) (hmN := by decide)
   (hbd := by kernel_rfl) (hd := d_sListConfigResourcesResponse) (hd0 := fun v n h => by simpa using h) (hbody := rfl)
  apply whole_seq
  ·apply blk_get (i := 1)
   ·apply get_call
    ·exact rc_Int32
    ·kernel_rfl
    ·rfl
   ·apply blkV_put
    ·rfl
    ·rfl
    ·kernel_rfl
    ·kernel_rfl
    ·rfl
   ·rfl
  ·apply whole_seq
   ·apply blk_get (i := 2)
    ·apply get_call
     ·exact rc_Int16
     ·kernel_rfl
     ·rfl
    ·apply blkV_put
     ·rfl
     ·rfl
     ·kernel_rfl
     ·kernel_rfl
     ·rfl
    ·rfl
   ·apply whole_seq
    ·apply blk_list (i := 3)
     ·rfl
     ·rfl
     ·kernel_rfl
     ·kernel_rfl
     ·kernel_rfl
     ·apply get_flex
      ·rfl
      ·apply get_call
       ·exact rc_CompactArrayLen
       ·kernel_rfl
       ·rfl
      ·apply get_call
       ·exact rc_ArrayLen
       ·kernel_rfl
       ·rfl
      ·rfl
     ·apply ok_rule
      ·exact rd_Ok
      ·exact rd_Complete
      ·kernel_rfl
      ·kernel_rfl
      ·rfl
     ·apply cut_rule (sz := 3) (e := 189)
      ·kernel_rfl
      ·rfl
     ·apply grow_rule (e := 189) (zs := #[.string (str []), .int .i8 0, .map none])
      ·kernel_rfl
      ·kernel_rfl
      ·kernel_rfl
      ·rfl
     ·apply loop_rule
      ·apply elem_struct (σ := sListConfigResourcesResponse_1) (e := 189) (z := from' #[.string (str []), .int .i8 0, .map none] 0) (z0 := (Lay.zeroL sListConfigResourcesResponse_1.lay, []))
       ·apply blk_seq
        ·apply blk_seq
         ·apply blk_nop
          rfl
         ·apply blk_get (i := 0)
          ·apply get_uns
           ·apply get_flex
            ·rfl
            ·apply get_call
             ·exact rc_UnsafeCompactString
             ·kernel_rfl
             ·rfl
            ·apply get_call
             ·exact rc_UnsafeString
             ·kernel_rfl
             ·rfl
            ·rfl
           ·apply get_flex
            ·rfl
            ·apply get_call
             ·exact rc_CompactString
             ·kernel_rfl
             ·rfl
            ·apply get_call
             ·exact rc_String
             ·kernel_rfl
             ·rfl
            ·rfl
           ·rfl
          ·apply blkV_put
           ·rfl
           ·rfl
           ·kernel_rfl
           ·kernel_rfl
           ·rfl
          ·rfl
         ·decide
        ·apply blk_seq
         ·apply blk_if
          ·apply tst_geq
           rfl
          ·apply blk_get (i := 1)
           ·apply get_call
            ·exact rc_Int8
            ·kernel_rfl
            ·rfl
           ·apply blkV_put
            ·rfl
            ·rfl
            ·kernel_rfl
            ·kernel_rfl
            ·rfl
           ·rfl
          ·exact blk_skip
          ·rfl
         ·apply blk_if
          ·apply tst_flex
           ·rfl
           ·rfl
          ·apply blk_tag
           ·exact readTags_spec
           ·kernel_rfl
           ·rfl
           ·kernel_rfl
           ·kernel_rfl
           ·rfl
           ·rfl
          ·exact blk_skip
          ·rfl
         ·decide
        ·decide
       ·exact d_sListConfigResourcesResponse_1
       ·kernel_rfl
       ·kernel_rfl
       ·rfl
       ·rfl
       ·exact zero_ok (lay := sListConfigResourcesResponse_1.lay) (tg := sListConfigResourcesResponse_1.tg) (z := from' #[.string (str []), .int .i8 0, .map none] 0) (by repeat' (first | rfl | trivial | apply And.intro)) (by rfl)
       ·rfl
      ·rfl
     ·rfl
     ·rfl
     ·rfl
    ·apply whole_seq
     ·apply blk_if
      ·apply tst_flex
       ·rfl
       ·rfl
      ·apply blk_tag
       ·exact readTags_spec
       ·kernel_rfl
       ·rfl
       ·kernel_rfl
       ·kernel_rfl
       ·rfl
       ·rfl
      ·exact blk_skip
      ·rfl
     ·apply whole_end
      ·exact rd_Complete
      ·kernel_rfl
      ·rfl
     ·rfl
    ·rfl
   ·rfl
  ·rfl
 ·refine wr_read (zs := [.num 0, .num 0, .nul]) ?_ (fun ver => rfl)
  refine Zb (z := .num 0) ?_ (by kernel_rfl) ?_
  ·repeat' (first | (with_reducible refine piece_nop ?_) | (with_reducible refine piece_if ?_ ?_; rotate_left; · (refine has_if (by decide) ?_; intro v l h; simp [Zk, Zf] at h ⊢ <;> omega)))
   refine piece_put ?_ (FD.alw (by decide) (by intro v l h; simp [Zk, Zf] at h ⊢ <;> omega))
   repeat' (first | (with_reducible exact rdw_int32) | (with_reducible refine rdw_stiff rdw_int32 ?_; intro v l h; cases l with | false => rfl | true => (exfalso; simp [Zk, Zf] at h <;> omega)) | (with_reducible refine rdw_when ?_ ?_))
  refine Zb (z := .num 0) ?_ (by kernel_rfl) ?_
  ·repeat' (first | (with_reducible refine piece_nop ?_) | (with_reducible refine piece_if ?_ ?_; rotate_left; · (refine has_if (by decide) ?_; intro v l h; simp [Zk, Zf] at h ⊢ <;> omega)))
   refine piece_put ?_ (FD.alw (by decide) (by intro v l h; simp [Zk, Zf] at h ⊢ <;> omega))
   repeat' (first | (with_reducible exact rdw_int16) | (with_reducible refine rdw_stiff rdw_int16 ?_; intro v l h; cases l with | false => rfl | true => (exfalso; simp [Zk, Zf] at h <;> omega)) | (with_reducible refine rdw_when ?_ ?_))
  refine Zb (z := .nul) ?_ (by kernel_rfl) ?_
  ·repeat' (first | (with_reducible refine piece_nop ?_) | (with_reducible refine piece_if ?_ ?_; rotate_left; · (refine has_if (by decide) ?_; intro v l h; simp [Zk, Zf] at h ⊢ <;> omega)))
   refine piece_list ?_ ?_ (FD.alw (by decide) (by intro v l h; simp [Zk, Zf] at h ⊢ <;> omega)) ?_
   ·first | exact cnt_flex | exact cnt_stiff (by intro v l h; cases l with | false => rfl | true => (exfalso; simp [Zk, Zf] at h <;> omega))
   ·refine el_struct (zs := [.oct [], .num (16)]) ?_ (by intro v l h; simp [Zk, Zf] at h ⊢ <;> omega) (by decide)
    refine Zb (z := .oct []) ?_ (by kernel_rfl) ?_
    ·repeat' (first | (with_reducible refine piece_nop ?_) | (with_reducible refine piece_if ?_ ?_; rotate_left; · (refine has_if (by decide) ?_; intro v l h; simp [Zk, Zf] at h ⊢ <;> omega)))
     refine piece_put ?_ (FD.alw (by decide) (by intro v l h; simp [Zk, Zf] at h ⊢ <;> omega))
     repeat' (first | (with_reducible exact rdw_text) | (with_reducible exact rdw_ntext) | (with_reducible refine rdw_stiff rdw_text ?_; intro v l h; cases l with | false => rfl | true => (exfalso; simp [Zk, Zf] at h <;> omega)) | (with_reducible refine rdw_stiff rdw_ntext ?_; intro v l h; cases l with | false => rfl | true => (exfalso; simp [Zk, Zf] at h <;> omega)) | (with_reducible refine rdw_when ?_ ?_))
    refine Zb (z := .num (16)) ?_ (by kernel_rfl) ?_
    ·repeat' (first | (with_reducible refine piece_nop ?_) | (with_reducible refine piece_if ?_ ?_; rotate_left; · (refine has_if (by decide) ?_; intro v l h; simp [Zk, Zf] at h ⊢ <;> omega)))
     refine piece_put ?_ (FD.alw (by decide) (by intro v l h; simp [Zk, Zf] at h ⊢ <;> omega))
     repeat' (first | (with_reducible exact rdw_int8) | (with_reducible refine rdw_stiff rdw_int8 ?_; intro v l h; cases l with | false => rfl | true => (exfalso; simp [Zk, Zf] at h <;> omega)) | (with_reducible refine rdw_when ?_ ?_))
    first | exact chain_tags' (by intro v l h; rfl) | exact chain_tags (by intro v l h; rfl)
   ·intro v l h; simp [Zk, Zf] at h ⊢ <;> omega
  first | exact chain_tags' (by intro v l h; rfl) | exact chain_tags (by intro v l h; rfl)
end Go.Proofs.YtpecdnfmlodmaaaGreatDoorR
