/-
  ControlledShutdownRequest: how it is read.
-/
import Derived.Laws.IdiomCopy
import Derived.Test.YthkpmmjcmldjhaaDoorPWk
import Derived.Test.YthkpmmjcmldjhaaDoorPMsgT
set_option linter.unusedSimpArgs false
set_option linter.unusedVariables false
namespace Go.Proofs.YthkpmmjcmldjhaaDoor
open Go Go.RowKit
abbrev sControlledShutdownRequest : St := ⟨10, .cons 0 (.int .i16) (.cons 1 (.int .i32) (.cons 2 (.int .i64) .nil)), some 3, 4⟩
theorem d_sControlledShutdownRequest : DfC Tryd.prog 31 sControlledShutdownRequest (fun v => ((v).1.set 2 (.num (-1)), (v).2)) := by
 apply dfc_rule (N := 5) (hf := Tryd.func31) (hbody := rfl) (hN := rfl) (hres := rfl) (hN1 := by decide)
 apply dblk_set (i := 2) (u := .num (-1)) (hat := rfl) (hok := by rfl) (h1 := rfl) (hf := by kernel_rfl) (hsz := by kernel_rfl) (hval := rfl) (hrep := fun w F => by simp only [Rep]; exact ⟨_, rfl, by simp [fits, IntKind.min, IntKind.max, IntKind.signed, IntKind.bits], rfl⟩) (hs := by rfl)
abbrev v_ControlledShutdownRequest : SV := (((Lay.zeroL sControlledShutdownRequest.lay, ([] : Tags))).1.set 2 (.num (-1)), ((Lay.zeroL sControlledShutdownRequest.lay, ([] : Tags))).2)
abbrev Zf : Int -> Bool := (fun ver => decide ((3 : Int) <= ver))
abbrev Zg : List FD := [.mk 3 0 (-1) (-1) (-1) 0 0 [], .mk 4 2 (-1) (-1) (-1) (-1) 0 []]
abbrev Zk : OkV := fun ver fl => 0 <= ver /\ ver <= 3 /\ fl = Zf ver
set_option maxRecDepth 100000 in
theorem read_ControlledShutdownRequest : ∃ ft, ReadC Tryd.prog 40 sControlledShutdownRequest Zf ft /\ WrI Zk ft v_ControlledShutdownRequest Zg := by
 apply Exists.intro
 constructor
 ·apply read_flex (m := 13) (N := 44) (hf := Tryd.func40) (hN := rfl) (hres := rfl) (hR := rdT) (h16 := by kernel_rfl) (hver := by kernel_rfl) (hlay := rfl) (hsz := rfl) (hs := rfl) (hm := by decide) (hmN := by decide)
   (hbd := by kernel_rfl) (hd := d_sControlledShutdownRequest) (hd0 := fun v n h => by simpa using h) (hbody := rfl)
  apply whole_seq
  ·apply blk_get (i := 1)
   ·apply get_call
    ·exact rc_Int32
    ·kernel_rfl
    ·rfl
   ·apply blkV_put
    ·rfl
    ·rfl
    ·kernel_rfl
    ·kernel_rfl
    ·rfl
   ·rfl
  ·apply whole_seq
   ·apply blk_if
    ·apply tst_geq
     rfl
    ·apply blk_get (i := 2)
     ·apply get_call
      ·exact rc_Int64
      ·kernel_rfl
      ·rfl
     ·apply blkV_put
      ·rfl
      ·rfl
      ·kernel_rfl
      ·kernel_rfl
      ·rfl
     ·rfl
    ·exact blk_skip
    ·rfl
   ·apply whole_seq
    ·apply blk_if
     ·apply tst_flex
      ·rfl
      ·rfl
     ·apply blk_tag
      ·exact readTags_spec
      ·kernel_rfl
      ·rfl
      ·kernel_rfl
      ·kernel_rfl
      ·rfl
      ·rfl
     ·exact blk_skip
     ·rfl
    ·apply whole_end
     ·exact rd_Complete
     ·kernel_rfl
     ·rfl
    ·rfl
   ·rfl
  ·rfl
 ·refine wr_read (zs := [.num 0, .num (-1)]) ?_ (fun ver => rfl)
  refine Zb (z := .num 0) ?_ (by kernel_rfl) ?_
  ·repeat' (first | (with_reducible refine piece_nop ?_) | (with_reducible refine piece_if ?_ ?_; rotate_left; · (refine has_if (by decide) ?_; intro v l h; simp [Zk, Zf] at h ⊢ <;> omega)))
   refine piece_put ?_ (FD.alw (by decide) (by intro v l h; simp [Zk, Zf] at h ⊢ <;> omega))
   repeat' (first | (with_reducible exact rdw_int32) | (with_reducible refine rdw_stiff rdw_int32 ?_; intro v l h; cases l with | false => rfl | true => (exfalso; simp [Zk, Zf] at h <;> omega)) | (with_reducible refine rdw_when ?_ ?_))
  refine Zb (z := .num (-1)) ?_ (by kernel_rfl) ?_
  ·repeat' (first | (with_reducible refine piece_nop ?_) | (with_reducible refine piece_if ?_ ?_; rotate_left; · (refine has_if (by decide) ?_; intro v l h; simp [Zk, Zf] at h ⊢ <;> omega)))
   refine piece_put ?_ (FD.alw (by decide) (by intro v l h; simp [Zk, Zf] at h ⊢ <;> omega))
   repeat' (first | (with_reducible exact rdw_int64) | (with_reducible refine rdw_stiff rdw_int64 ?_; intro v l h; cases l with | false => rfl | true => (exfalso; simp [Zk, Zf] at h <;> omega)) | (with_reducible refine rdw_when ?_ ?_))
  first | exact chain_tags' (by intro v l h; rfl) | exact chain_tags (by intro v l h; rfl)
end Go.Proofs.YthkpmmjcmldjhaaDoor
