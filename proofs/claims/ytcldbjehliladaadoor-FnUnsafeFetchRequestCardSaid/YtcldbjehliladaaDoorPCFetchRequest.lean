/-
  FetchRequest: how it is read.
  FetchRequest: its doors.
  FnUnsafeFetchRequest: the walk through the law.
  FnUnsafeFetchRequest: the row and its card.
-/
import Derived.Test.YtcldbjehliladaaDoorCards
import Derived.Test.YtcldbjehliladaaDoorTie
import Derived.WalkKit
import Derived.ProofKit
import Derived.OpenShut
import Derived.Below
import Derived.ChangeSame
import Derived.ChangeSlices
import Derived.Stop.LaidErr
import Derived.Deep.DeepHandedRow
import Derived.Deep.DeepWitnessRowRef
import Derived.Test.YtcldbjehliladaaDoorPKs
import Derived.Test.YtcldbjehliladaaDoorPKd
import Derived.Test.YtcldbjehliladaaDoorPLaw
import Derived.Test.YtcldbjehliladaaDoorPSaT
set_option linter.unusedSimpArgs false
set_option linter.unusedVariables false
namespace Go.Proofs.YtcldbjehliladaaDoor
open Go Go.RowKit
abbrev sFetchRequest : St := ⟨10, .cons 0 (.int .i16) (.cons 1 .pstr (.cons 2 (.int .i32) (.cons 3 (.struct (.cons 0 (.int .i32) (.cons 1 (.int .i64) .nil)) (some 2) 3) (.cons 6 (.int .i32) (.cons 7 (.int .i32) (.cons 8 (.int .i32) (.cons 9 (.int .i8) (.cons 10 (.int .i32) (.cons 11 (.int .i32) (.cons 12 (.list (.struct (.cons 0 .str (.cons 1 .uuid (.cons 17 (.list (.struct (.cons 0 (.int .i32) (.cons 1 (.int .i32) (.cons 2 (.int .i64) (.cons 3 (.int .i32) (.cons 4 (.int .i64) (.cons 5 (.int .i32) (.cons 6 .uuid (.cons 22 (.int .i64) .nil)))))))) (some 23) 24) 24) .nil))) (some 18) 19) 19) (.cons 13 (.list (.struct (.cons 0 .str (.cons 1 .uuid (.cons 17 (.list (.int .i32) 1) .nil))) (some 18) 19) 19) (.cons 14 .str .nil)))))))))))), some 15, 16⟩
theorem d_sFetchRequest : DfC Tryd.prog 48 sFetchRequest (fun v => (((((subD 3 (fun v => ((((v).1.set 0 (.num (-1)), (v).2)).1.set 1 (.num (-1)), (((v).1.set 0 (.num (-1)), (v).2)).2)) ((((v).1.set 1 (.ofOpt none), (v).2)).1.set 2 (.num (-1)), (((v).1.set 1 (.ofOpt none), (v).2)).2))).1.set 6 (.num (2147483647)), ((subD 3 (fun v => ((((v).1.set 0 (.num (-1)), (v).2)).1.set 1 (.num (-1)), (((v).1.set 0 (.num (-1)), (v).2)).2)) ((((v).1.set 1 (.ofOpt none), (v).2)).1.set 2 (.num (-1)), (((v).1.set 1 (.ofOpt none), (v).2)).2))).2)).1.set 9 (.num (-1)), ((((subD 3 (fun v => ((((v).1.set 0 (.num (-1)), (v).2)).1.set 1 (.num (-1)), (((v).1.set 0 (.num (-1)), (v).2)).2)) ((((v).1.set 1 (.ofOpt none), (v).2)).1.set 2 (.num (-1)), (((v).1.set 1 (.ofOpt none), (v).2)).2))).1.set 6 (.num (2147483647)), ((subD 3 (fun v => ((((v).1.set 0 (.num (-1)), (v).2)).1.set 1 (.num (-1)), (((v).1.set 0 (.num (-1)), (v).2)).2)) ((((v).1.set 1 (.ofOpt none), (v).2)).1.set 2 (.num (-1)), (((v).1.set 1 (.ofOpt none), (v).2)).2))).2)).2)) := by
 apply dfc_rule (N := 25) (hf := Tryd.func48) (hbody := rfl) (hN := rfl) (hres := rfl) (hN1 := by decide)
 apply dblk_seq (d := fun v => ((v).1.set 1 (.ofOpt none), (v).2)) (d' := fun v => (((((subD 3 (fun v => ((((v).1.set 0 (.num (-1)), (v).2)).1.set 1 (.num (-1)), (((v).1.set 0 (.num (-1)), (v).2)).2)) ((v).1.set 2 (.num (-1)), (v).2))).1.set 6 (.num (2147483647)), ((subD 3 (fun v => ((((v).1.set 0 (.num (-1)), (v).2)).1.set 1 (.num (-1)), (((v).1.set 0 (.num (-1)), (v).2)).2)) ((v).1.set 2 (.num (-1)), (v).2))).2)).1.set 9 (.num (-1)), ((((subD 3 (fun v => ((((v).1.set 0 (.num (-1)), (v).2)).1.set 1 (.num (-1)), (((v).1.set 0 (.num (-1)), (v).2)).2)) ((v).1.set 2 (.num (-1)), (v).2))).1.set 6 (.num (2147483647)), ((subD 3 (fun v => ((((v).1.set 0 (.num (-1)), (v).2)).1.set 1 (.num (-1)), (((v).1.set 0 (.num (-1)), (v).2)).2)) ((v).1.set 2 (.num (-1)), (v).2))).2)).2))
 ·apply dblk_set (i := 1) (u := .ofOpt none) (hat := rfl) (hok := by rfl) (h1 := rfl) (hf := by kernel_rfl) (hsz := by kernel_rfl) (hval := rfl) (hrep := fun w F => by simp only [Rep]; exact ⟨none, rfl, fun _ e => (by cases e), rfl⟩) (hs := by rfl)
 ·apply dblk_seq (d := fun v => ((v).1.set 2 (.num (-1)), (v).2)) (d' := fun v => (((((subD 3 (fun v => ((((v).1.set 0 (.num (-1)), (v).2)).1.set 1 (.num (-1)), (((v).1.set 0 (.num (-1)), (v).2)).2)) v)).1.set 6 (.num (2147483647)), ((subD 3 (fun v => ((((v).1.set 0 (.num (-1)), (v).2)).1.set 1 (.num (-1)), (((v).1.set 0 (.num (-1)), (v).2)).2)) v)).2)).1.set 9 (.num (-1)), ((((subD 3 (fun v => ((((v).1.set 0 (.num (-1)), (v).2)).1.set 1 (.num (-1)), (((v).1.set 0 (.num (-1)), (v).2)).2)) v)).1.set 6 (.num (2147483647)), ((subD 3 (fun v => ((((v).1.set 0 (.num (-1)), (v).2)).1.set 1 (.num (-1)), (((v).1.set 0 (.num (-1)), (v).2)).2)) v)).2)).2))
  ·apply dblk_set (i := 2) (u := .num (-1)) (hat := rfl) (hok := by rfl) (h1 := rfl) (hf := by kernel_rfl) (hsz := by kernel_rfl) (hval := rfl) (hrep := fun w F => by simp only [Rep]; exact ⟨_, rfl, by simp [fits, IntKind.min, IntKind.max, IntKind.signed, IntKind.bits], rfl⟩) (hs := by rfl)
  ·apply dblk_seq (d := fun v => (subD 3 (fun v => ((((v).1.set 0 (.num (-1)), (v).2)).1.set 1 (.num (-1)), (((v).1.set 0 (.num (-1)), (v).2)).2)) v)) (d' := fun v => ((((v).1.set 6 (.num (2147483647)), (v).2)).1.set 9 (.num (-1)), (((v).1.set 6 (.num (2147483647)), (v).2)).2))
   ·apply dblk_sub (σ' := (⟨0, .cons 0 (.int .i32) (.cons 1 (.int .i64) .nil), some 2, 3⟩ : St)) (i := 3) (d := fun v => ((((v).1.set 0 (.num (-1)), (v).2)).1.set 1 (.num (-1)), (((v).1.set 0 (.num (-1)), (v).2)).2))
    ·apply dblks_seq (d := fun v => v) (d' := fun v => ((((v).1.set 0 (.num (-1)), (v).2)).1.set 1 (.num (-1)), (((v).1.set 0 (.num (-1)), (v).2)).2))
     ·apply dblks_mv
      rfl
     ·apply dblks_seq (d := fun v => ((v).1.set 0 (.num (-1)), (v).2)) (d' := fun v => ((v).1.set 1 (.num (-1)), (v).2))
      ·apply dblks_set (i := 0) (u := .num (-1)) (hat := rfl) (hok := by rfl) (h1 := rfl) (hf := by kernel_rfl) (hsz := by kernel_rfl) (hval := rfl) (hrep := fun w F => by simp only [Rep]; exact ⟨_, rfl, by simp [fits, IntKind.min, IntKind.max, IntKind.signed, IntKind.bits], rfl⟩) (hs := by rfl)
      ·apply dblks_set (i := 1) (u := .num (-1)) (hat := rfl) (hok := by rfl) (h1 := rfl) (hf := by kernel_rfl) (hsz := by kernel_rfl) (hval := rfl) (hrep := fun w F => by simp only [Rep]; exact ⟨_, rfl, by simp [fits, IntKind.min, IntKind.max, IntKind.signed, IntKind.bits], rfl⟩) (hs := by rfl)
    ·rfl
    ·rfl
    ·kernel_rfl
    ·rfl
   ·apply dblk_seq (d := fun v => ((v).1.set 6 (.num (2147483647)), (v).2)) (d' := fun v => ((v).1.set 9 (.num (-1)), (v).2))
    ·apply dblk_set (i := 6) (u := .num (2147483647)) (hat := rfl) (hok := by rfl) (h1 := rfl) (hf := by kernel_rfl) (hsz := by kernel_rfl) (hval := rfl) (hrep := fun w F => by simp only [Rep]; exact ⟨_, rfl, by simp [fits, IntKind.min, IntKind.max, IntKind.signed, IntKind.bits], rfl⟩) (hs := by rfl)
    ·apply dblk_set (i := 9) (u := .num (-1)) (hat := rfl) (hok := by rfl) (h1 := rfl) (hf := by kernel_rfl) (hsz := by kernel_rfl) (hval := rfl) (hrep := fun w F => by simp only [Rep]; exact ⟨_, rfl, by simp [fits, IntKind.min, IntKind.max, IntKind.signed, IntKind.bits], rfl⟩) (hs := by rfl)
abbrev sFetchRequest_1 : St := ⟨23, .cons 0 .str (.cons 1 .uuid (.cons 17 (.list (.struct (.cons 0 (.int .i32) (.cons 1 (.int .i32) (.cons 2 (.int .i64) (.cons 3 (.int .i32) (.cons 4 (.int .i64) (.cons 5 (.int .i32) (.cons 6 .uuid (.cons 22 (.int .i64) .nil)))))))) (some 23) 24) 24) .nil)), some 18, 19⟩
theorem d_sFetchRequest_1 : DfC Tryd.prog 81 sFetchRequest_1 (fun v => v) := by
 apply dfc_rule (N := 2) (hf := Tryd.func81) (hbody := rfl) (hN := rfl) (hres := rfl) (hN1 := by decide)
 exact dblk_skip
abbrev sFetchRequest_2 : St := ⟨31, .cons 0 (.int .i32) (.cons 1 (.int .i32) (.cons 2 (.int .i64) (.cons 3 (.int .i32) (.cons 4 (.int .i64) (.cons 5 (.int .i32) (.cons 6 .uuid (.cons 22 (.int .i64) .nil))))))), some 23, 24⟩
theorem d_sFetchRequest_2 : DfC Tryd.prog 84 sFetchRequest_2 (fun v => ((((((((v).1.set 1 (.num (-1)), (v).2)).1.set 3 (.num (-1)), (((v).1.set 1 (.num (-1)), (v).2)).2)).1.set 4 (.num (-1)), (((((v).1.set 1 (.num (-1)), (v).2)).1.set 3 (.num (-1)), (((v).1.set 1 (.num (-1)), (v).2)).2)).2)).1.set 7 (.num (9223372036854775807)), (((((((v).1.set 1 (.num (-1)), (v).2)).1.set 3 (.num (-1)), (((v).1.set 1 (.num (-1)), (v).2)).2)).1.set 4 (.num (-1)), (((((v).1.set 1 (.num (-1)), (v).2)).1.set 3 (.num (-1)), (((v).1.set 1 (.num (-1)), (v).2)).2)).2)).2)) := by
 apply dfc_rule (N := 14) (hf := Tryd.func84) (hbody := rfl) (hN := rfl) (hres := rfl) (hN1 := by decide)
 apply dblk_seq (d := fun v => ((v).1.set 1 (.num (-1)), (v).2)) (d' := fun v => ((((((v).1.set 3 (.num (-1)), (v).2)).1.set 4 (.num (-1)), (((v).1.set 3 (.num (-1)), (v).2)).2)).1.set 7 (.num (9223372036854775807)), (((((v).1.set 3 (.num (-1)), (v).2)).1.set 4 (.num (-1)), (((v).1.set 3 (.num (-1)), (v).2)).2)).2))
 ·apply dblk_set (i := 1) (u := .num (-1)) (hat := rfl) (hok := by rfl) (h1 := rfl) (hf := by kernel_rfl) (hsz := by kernel_rfl) (hval := rfl) (hrep := fun w F => by simp only [Rep]; exact ⟨_, rfl, by simp [fits, IntKind.min, IntKind.max, IntKind.signed, IntKind.bits], rfl⟩) (hs := by rfl)
 ·apply dblk_seq (d := fun v => ((v).1.set 3 (.num (-1)), (v).2)) (d' := fun v => ((((v).1.set 4 (.num (-1)), (v).2)).1.set 7 (.num (9223372036854775807)), (((v).1.set 4 (.num (-1)), (v).2)).2))
  ·apply dblk_set (i := 3) (u := .num (-1)) (hat := rfl) (hok := by rfl) (h1 := rfl) (hf := by kernel_rfl) (hsz := by kernel_rfl) (hval := rfl) (hrep := fun w F => by simp only [Rep]; exact ⟨_, rfl, by simp [fits, IntKind.min, IntKind.max, IntKind.signed, IntKind.bits], rfl⟩) (hs := by rfl)
  ·apply dblk_seq (d := fun v => ((v).1.set 4 (.num (-1)), (v).2)) (d' := fun v => ((v).1.set 7 (.num (9223372036854775807)), (v).2))
   ·apply dblk_set (i := 4) (u := .num (-1)) (hat := rfl) (hok := by rfl) (h1 := rfl) (hf := by kernel_rfl) (hsz := by kernel_rfl) (hval := rfl) (hrep := fun w F => by simp only [Rep]; exact ⟨_, rfl, by simp [fits, IntKind.min, IntKind.max, IntKind.signed, IntKind.bits], rfl⟩) (hs := by rfl)
   ·apply dblk_set (i := 7) (u := .num (9223372036854775807)) (hat := rfl) (hok := by rfl) (h1 := rfl) (hf := by kernel_rfl) (hsz := by kernel_rfl) (hval := rfl) (hrep := fun w F => by simp only [Rep]; exact ⟨_, rfl, by simp [fits, IntKind.min, IntKind.max, IntKind.signed, IntKind.bits], rfl⟩) (hs := by rfl)
abbrev sFetchRequest_3 : St := ⟨51, .cons 0 .str (.cons 1 .uuid (.cons 17 (.list (.int .i32) 1) .nil)), some 18, 19⟩
theorem d_sFetchRequest_3 : DfC Tryd.prog 86 sFetchRequest_3 (fun v => v) := by
 apply dfc_rule (N := 2) (hf := Tryd.func86) (hbody := rfl) (hN := rfl) (hres := rfl) (hN1 := by decide)
 exact dblk_skip
abbrev sFetchRequest_4 : St := ⟨67, .cons 0 (.int .i32) (.cons 1 (.int .i64) .nil), some 2, 3⟩
theorem d_sFetchRequest_4 : DfC Tryd.prog 91 sFetchRequest_4 (fun v => ((((v).1.set 0 (.num (-1)), (v).2)).1.set 1 (.num (-1)), (((v).1.set 0 (.num (-1)), (v).2)).2)) := by
 apply dfc_rule (N := 8) (hf := Tryd.func91) (hbody := rfl) (hN := rfl) (hres := rfl) (hN1 := by decide)
 apply dblk_seq (d := fun v => ((v).1.set 0 (.num (-1)), (v).2)) (d' := fun v => ((v).1.set 1 (.num (-1)), (v).2))
 ·apply dblk_set (i := 0) (u := .num (-1)) (hat := rfl) (hok := by rfl) (h1 := rfl) (hf := by kernel_rfl) (hsz := by kernel_rfl) (hval := rfl) (hrep := fun w F => by simp only [Rep]; exact ⟨_, rfl, by simp [fits, IntKind.min, IntKind.max, IntKind.signed, IntKind.bits], rfl⟩) (hs := by rfl)
 ·apply dblk_set (i := 1) (u := .num (-1)) (hat := rfl) (hok := by rfl) (h1 := rfl) (hf := by kernel_rfl) (hsz := by kernel_rfl) (hval := rfl) (hrep := fun w F => by simp only [Rep]; exact ⟨_, rfl, by simp [fits, IntKind.min, IntKind.max, IntKind.signed, IntKind.bits], rfl⟩) (hs := by rfl)
abbrev v_FetchRequest : SV := (((((subD 3 (fun v => ((((v).1.set 0 (.num (-1)), (v).2)).1.set 1 (.num (-1)), (((v).1.set 0 (.num (-1)), (v).2)).2)) (((((Lay.zeroL sFetchRequest.lay, ([] : Tags))).1.set 1 (.ofOpt none), ((Lay.zeroL sFetchRequest.lay, ([] : Tags))).2)).1.set 2 (.num (-1)), ((((Lay.zeroL sFetchRequest.lay, ([] : Tags))).1.set 1 (.ofOpt none), ((Lay.zeroL sFetchRequest.lay, ([] : Tags))).2)).2))).1.set 6 (.num (2147483647)), ((subD 3 (fun v => ((((v).1.set 0 (.num (-1)), (v).2)).1.set 1 (.num (-1)), (((v).1.set 0 (.num (-1)), (v).2)).2)) (((((Lay.zeroL sFetchRequest.lay, ([] : Tags))).1.set 1 (.ofOpt none), ((Lay.zeroL sFetchRequest.lay, ([] : Tags))).2)).1.set 2 (.num (-1)), ((((Lay.zeroL sFetchRequest.lay, ([] : Tags))).1.set 1 (.ofOpt none), ((Lay.zeroL sFetchRequest.lay, ([] : Tags))).2)).2))).2)).1.set 9 (.num (-1)), ((((subD 3 (fun v => ((((v).1.set 0 (.num (-1)), (v).2)).1.set 1 (.num (-1)), (((v).1.set 0 (.num (-1)), (v).2)).2)) (((((Lay.zeroL sFetchRequest.lay, ([] : Tags))).1.set 1 (.ofOpt none), ((Lay.zeroL sFetchRequest.lay, ([] : Tags))).2)).1.set 2 (.num (-1)), ((((Lay.zeroL sFetchRequest.lay, ([] : Tags))).1.set 1 (.ofOpt none), ((Lay.zeroL sFetchRequest.lay, ([] : Tags))).2)).2))).1.set 6 (.num (2147483647)), ((subD 3 (fun v => ((((v).1.set 0 (.num (-1)), (v).2)).1.set 1 (.num (-1)), (((v).1.set 0 (.num (-1)), (v).2)).2)) (((((Lay.zeroL sFetchRequest.lay, ([] : Tags))).1.set 1 (.ofOpt none), ((Lay.zeroL sFetchRequest.lay, ([] : Tags))).2)).1.set 2 (.num (-1)), ((((Lay.zeroL sFetchRequest.lay, ([] : Tags))).1.set 1 (.ofOpt none), ((Lay.zeroL sFetchRequest.lay, ([] : Tags))).2)).2))).2)).2)
abbrev Zf : Int -> Bool := (fun ver => decide ((12 : Int) <= ver))
set_option maxRecDepth 100000 in
theorem read_FetchRequest : ∃ ft, ReadC Tryd.prog 49 sFetchRequest Zf ft /\ NsI ft v_FetchRequest := by
 apply Exists.intro
 constructor
 ·apply read_flex (m := 71) (N := 492) (hf := Tryd.func49) (hN := rfl) (hres := rfl) (hR := rdT) (h16 := by kernel_rfl) (hver := by kernel_rfl) (hlay := rfl) (hsz := rfl) (hs := rfl) (hm := by decide) (hmN := by decide)
   (hbd := by kernel_rfl) (hd := d_sFetchRequest) (hd0 := fun v n h => by simpa [subD] using h) (hbody := rfl)
  apply whole_seq
  ·apply blk_if
   ·apply tst_and
    rfl
   ·apply blk_get (i := 2)
    ·apply get_call
     ·exact rc_Int32
     ·kernel_rfl
     ·rfl
    ·apply blkV_put
     ·rfl
     ·rfl
     ·kernel_rfl
     ·kernel_rfl
     ·rfl
    ·rfl
   ·exact blk_skip
   ·rfl
  ·apply whole_seq
   ·apply blk_get (i := 4)
    ·apply get_call
     ·exact rc_Int32
     ·kernel_rfl
     ·rfl
    ·apply blkV_put
     ·rfl
     ·rfl
     ·kernel_rfl
     ·kernel_rfl
     ·rfl
    ·rfl
   ·apply whole_seq
    ·apply blk_get (i := 5)
     ·apply get_call
      ·exact rc_Int32
      ·kernel_rfl
      ·rfl
     ·apply blkV_put
      ·rfl
      ·rfl
      ·kernel_rfl
      ·kernel_rfl
      ·rfl
     ·rfl
    ·apply whole_seq
     ·apply blk_if
      ·apply tst_geq
       rfl
      ·apply blk_get (i := 6)
       ·apply get_call
        ·exact rc_Int32
        ·kernel_rfl
        ·rfl
       ·apply blkV_put
        ·rfl
        ·rfl
        ·kernel_rfl
        ·kernel_rfl
        ·rfl
       ·rfl
      ·exact blk_skip
      ·rfl
     ·apply whole_seq
      ·apply blk_if
       ·apply tst_geq
        rfl
       ·apply blk_get (i := 7)
        ·apply get_call
         ·exact rc_Int8
         ·kernel_rfl
         ·rfl
        ·apply blkV_put
         ·rfl
         ·rfl
         ·kernel_rfl
         ·kernel_rfl
         ·rfl
        ·rfl
       ·exact blk_skip
       ·rfl
      ·apply whole_seq
       ·apply blk_if
        ·apply tst_geq
         rfl
        ·apply blk_get (i := 8)
         ·apply get_call
          ·exact rc_Int32
          ·kernel_rfl
          ·rfl
         ·apply blkV_put
          ·rfl
          ·rfl
          ·kernel_rfl
          ·kernel_rfl
          ·rfl
         ·rfl
        ·exact blk_skip
        ·rfl
       ·apply whole_seq
        ·apply blk_if
         ·apply tst_geq
          rfl
         ·apply blk_get (i := 9)
          ·apply get_call
           ·exact rc_Int32
           ·kernel_rfl
           ·rfl
          ·apply blkV_put
           ·rfl
           ·rfl
           ·kernel_rfl
           ·kernel_rfl
           ·rfl
          ·rfl
         ·exact blk_skip
         ·rfl
        ·apply whole_seq
         ·apply blk_list (i := 10)
          ·rfl
          ·rfl
          ·kernel_rfl
          ·kernel_rfl
          ·kernel_rfl
          ·apply get_flex
           ·rfl
           ·apply get_call
            ·exact rc_CompactArrayLen
            ·kernel_rfl
            ·rfl
           ·apply get_call
            ·exact rc_ArrayLen
            ·kernel_rfl
            ·rfl
           ·rfl
          ·apply ok_rule
           ·exact rd_Ok
           ·exact rd_Complete
           ·kernel_rfl
           ·kernel_rfl
           ·rfl
          ·apply cut_rule (sz := 19) (e := 99)
           ·kernel_rfl
           ·rfl
          ·apply grow_rule (e := 99) (zs := #[.string (str []), .int .u8 0, .int .u8 0, .int .u8 0, .int .u8 0, .int .u8 0, .int .u8 0, .int .u8 0, .int .u8 0, .int .u8 0, .int .u8 0, .int .u8 0, .int .u8 0, .int .u8 0, .int .u8 0, .int .u8 0, .int .u8 0, .slice none 0 0, .map none])
           ·kernel_rfl
           ·kernel_rfl
           ·kernel_rfl
           ·rfl
          ·apply loop_rule
           ·apply elem_struct (σ := sFetchRequest_1) (e := 99) (z := from' #[.string (str []), .int .u8 0, .int .u8 0, .int .u8 0, .int .u8 0, .int .u8 0, .int .u8 0, .int .u8 0, .int .u8 0, .int .u8 0, .int .u8 0, .int .u8 0, .int .u8 0, .int .u8 0, .int .u8 0, .int .u8 0, .int .u8 0, .slice none 0 0, .map none] 0) (z0 := (Lay.zeroL sFetchRequest_1.lay, []))
            ·apply blk_seq
             ·apply blk_if
              ·apply tst_and
               rfl
              ·apply blk_seq
               ·apply blk_nop
                rfl
               ·apply blk_get (i := 0)
                ·apply get_uns
                 ·apply get_flex
                  ·rfl
                  ·apply get_call
                   ·exact rc_UnsafeCompactString
                   ·kernel_rfl
                   ·rfl
                  ·apply get_call
                   ·exact rc_UnsafeString
                   ·kernel_rfl
                   ·rfl
                  ·rfl
                 ·apply get_flex
                  ·rfl
                  ·apply get_call
                   ·exact rc_CompactString
                   ·kernel_rfl
                   ·rfl
                  ·apply get_call
                   ·exact rc_String
                   ·kernel_rfl
                   ·rfl
                  ·rfl
                 ·rfl
                ·apply blkV_put
                 ·rfl
                 ·rfl
                 ·kernel_rfl
                 ·kernel_rfl
                 ·rfl
                ·rfl
               ·decide
              ·exact blk_skip
              ·rfl
             ·apply blk_seq
              ·apply blk_if
               ·apply tst_geq
                rfl
               ·apply blk_uuid (i := 1)
                ·exact rc_Uuid
                ·kernel_rfl
                ·kernel_rfl
                ·exact zeroU
                ·kernel_rfl
                ·rfl
                ·rfl
                ·kernel_rfl
                ·rfl
               ·exact blk_skip
               ·rfl
              ·apply blk_seq
               ·apply blk_list (i := 2)
                ·rfl
                ·rfl
                ·kernel_rfl
                ·kernel_rfl
                ·kernel_rfl
                ·apply get_flex
                 ·rfl
                 ·apply get_call
                  ·exact rc_CompactArrayLen
                  ·kernel_rfl
                  ·rfl
                 ·apply get_call
                  ·exact rc_ArrayLen
                  ·kernel_rfl
                  ·rfl
                 ·rfl
                ·apply ok_rule
                 ·exact rd_Ok
                 ·exact rd_Complete
                 ·kernel_rfl
                 ·kernel_rfl
                 ·rfl
                ·apply cut_rule (sz := 24) (e := 132)
                 ·kernel_rfl
                 ·rfl
                ·apply grow_rule (e := 132) (zs := #[.int .i32 0, .int .i32 0, .int .i64 0, .int .i32 0, .int .i64 0, .int .i32 0, .int .u8 0, .int .u8 0, .int .u8 0, .int .u8 0, .int .u8 0, .int .u8 0, .int .u8 0, .int .u8 0, .int .u8 0, .int .u8 0, .int .u8 0, .int .u8 0, .int .u8 0, .int .u8 0, .int .u8 0, .int .u8 0, .int .i64 0, .map none])
                 ·kernel_rfl
                 ·kernel_rfl
                 ·kernel_rfl
                 ·rfl
                ·apply loop_rule
                 ·apply elem_struct (σ := sFetchRequest_2) (e := 132) (z := from' #[.int .i32 0, .int .i32 0, .int .i64 0, .int .i32 0, .int .i64 0, .int .i32 0, .int .u8 0, .int .u8 0, .int .u8 0, .int .u8 0, .int .u8 0, .int .u8 0, .int .u8 0, .int .u8 0, .int .u8 0, .int .u8 0, .int .u8 0, .int .u8 0, .int .u8 0, .int .u8 0, .int .u8 0, .int .u8 0, .int .i64 0, .map none] 0) (z0 := (Lay.zeroL sFetchRequest_2.lay, []))
                  ·apply blk_seq
                   ·apply blk_get (i := 0)
                    ·apply get_call
                     ·exact rc_Int32
                     ·kernel_rfl
                     ·rfl
                    ·apply blkV_put
                     ·rfl
                     ·rfl
                     ·kernel_rfl
                     ·kernel_rfl
                     ·rfl
                    ·rfl
                   ·apply blk_seq
                    ·apply blk_if
                     ·apply tst_geq
                      rfl
                     ·apply blk_get (i := 1)
                      ·apply get_call
                       ·exact rc_Int32
                       ·kernel_rfl
                       ·rfl
                      ·apply blkV_put
                       ·rfl
                       ·rfl
                       ·kernel_rfl
                       ·kernel_rfl
                       ·rfl
                      ·rfl
                     ·exact blk_skip
                     ·rfl
                    ·apply blk_seq
                     ·apply blk_get (i := 2)
                      ·apply get_call
                       ·exact rc_Int64
                       ·kernel_rfl
                       ·rfl
                      ·apply blkV_put
                       ·rfl
                       ·rfl
                       ·kernel_rfl
                       ·kernel_rfl
                       ·rfl
                      ·rfl
                     ·apply blk_seq
                      ·apply blk_if
                       ·apply tst_geq
                        rfl
                       ·apply blk_get (i := 3)
                        ·apply get_call
                         ·exact rc_Int32
                         ·kernel_rfl
                         ·rfl
                        ·apply blkV_put
                         ·rfl
                         ·rfl
                         ·kernel_rfl
                         ·kernel_rfl
                         ·rfl
                        ·rfl
                       ·exact blk_skip
                       ·rfl
                      ·apply blk_seq
                       ·apply blk_if
                        ·apply tst_geq
                         rfl
                        ·apply blk_get (i := 4)
                         ·apply get_call
                          ·exact rc_Int64
                          ·kernel_rfl
                          ·rfl
                         ·apply blkV_put
                          ·rfl
                          ·rfl
                          ·kernel_rfl
                          ·kernel_rfl
                          ·rfl
                         ·rfl
                        ·exact blk_skip
                        ·rfl
                       ·apply blk_seq
                        ·apply blk_get (i := 5)
                         ·apply get_call
                          ·exact rc_Int32
                          ·kernel_rfl
                          ·rfl
                         ·apply blkV_put
                          ·rfl
                          ·rfl
                          ·kernel_rfl
                          ·kernel_rfl
                          ·rfl
                         ·rfl
                        ·apply blk_if
                         ·apply tst_flex
                          ·rfl
                          ·rfl
                         ·apply blk_tags (o := 23)
                          ·exact uv_C
                          ·kernel_rfl
                          ·apply sw_case
                           ·apply sw_known (o := 23)
                            ·exact uv_C
                            ·exact sp_C
                            ·exact rdT
                            ·kernel_rfl
                            ·kernel_rfl
                            ·kernel_rfl
                            ·kernel_rfl
                            ·decide
                            ·apply blk_uuid2 (i := 6)
                             ·apply blk_end
                              ·exact rd_Complete
                              ·kernel_rfl
                              ·kernel_rfl
                              ·rfl
                             ·exact rc_Uuid
                             ·kernel_rfl
                             ·kernel_rfl
                             ·exact zeroU
                             ·kernel_rfl
                             ·rfl
                             ·rfl
                             ·kernel_rfl
                             ·rfl
                            ·rfl
                           ·apply sw_case
                            ·apply sw_known (o := 23)
                             ·exact uv_C
                             ·exact sp_C
                             ·exact rdT
                             ·kernel_rfl
                             ·kernel_rfl
                             ·kernel_rfl
                             ·kernel_rfl
                             ·decide
                             ·apply blk_get2 (i := 7)
                              ·apply get_call
                               ·exact rc_Int64
                               ·kernel_rfl
                               ·rfl
                              ·apply blkV_put
                               ·rfl
                               ·rfl
                               ·kernel_rfl
                               ·kernel_rfl
                               ·rfl
                              ·apply blk_end
                               ·exact rd_Complete
                               ·kernel_rfl
                               ·kernel_rfl
                               ·rfl
                              ·rfl
                             ·rfl
                            ·apply sw_set
                             ·rfl
                             ·exact uv_C
                             ·exact sp_C
                             ·exact setTag_spec
                             ·kernel_rfl
                             ·kernel_rfl
                             ·kernel_rfl
                             ·kernel_rfl
                             ·kernel_rfl
                             ·kernel_rfl
                             ·rfl
                             ·decide
                             ·rfl
                            ·rfl
                           ·rfl
                          ·rfl
                          ·decide
                          ·rfl
                         ·exact blk_skip
                         ·rfl
                        ·decide
                       ·decide
                      ·decide
                     ·decide
                    ·decide
                   ·decide
                  ·exact d_sFetchRequest_2
                  ·kernel_rfl
                  ·kernel_rfl
                  ·rfl
                  ·rfl
                  ·exact zero_ok (lay := sFetchRequest_2.lay) (tg := sFetchRequest_2.tg) (z := from' #[.int .i32 0, .int .i32 0, .int .i64 0, .int .i32 0, .int .i64 0, .int .i32 0, .int .u8 0, .int .u8 0, .int .u8 0, .int .u8 0, .int .u8 0, .int .u8 0, .int .u8 0, .int .u8 0, .int .u8 0, .int .u8 0, .int .u8 0, .int .u8 0, .int .u8 0, .int .u8 0, .int .u8 0, .int .u8 0, .int .i64 0, .map none] 0) (by repeat' (first | rfl | trivial | apply And.intro)) (by rfl)
                  ·rfl
                 ·rfl
                ·rfl
                ·rfl
                ·rfl
               ·apply blk_if
                ·apply tst_flex
                 ·rfl
                 ·rfl
                ·apply blk_tag
                 ·exact readTags_spec
                 ·kernel_rfl
                 ·rfl
                 ·kernel_rfl
                 ·kernel_rfl
                 ·rfl
                 ·rfl
                ·exact blk_skip
                ·rfl
               ·decide
              ·decide
             ·decide
            ·exact d_sFetchRequest_1
            ·kernel_rfl
            ·kernel_rfl
            ·rfl
            ·rfl
            ·exact zero_ok (lay := sFetchRequest_1.lay) (tg := sFetchRequest_1.tg) (z := from' #[.string (str []), .int .u8 0, .int .u8 0, .int .u8 0, .int .u8 0, .int .u8 0, .int .u8 0, .int .u8 0, .int .u8 0, .int .u8 0, .int .u8 0, .int .u8 0, .int .u8 0, .int .u8 0, .int .u8 0, .int .u8 0, .int .u8 0, .slice none 0 0, .map none] 0) (by repeat' (first | rfl | trivial | apply And.intro)) (by rfl)
            ·rfl
           ·rfl
          ·rfl
          ·rfl
          ·rfl
         ·apply whole_seq
          ·apply blk_if
           ·apply tst_geq
            rfl
           ·apply blk_list (i := 11)
            ·rfl
            ·rfl
            ·kernel_rfl
            ·kernel_rfl
            ·kernel_rfl
            ·apply get_flex
             ·rfl
             ·apply get_call
              ·exact rc_CompactArrayLen
              ·kernel_rfl
              ·rfl
             ·apply get_call
              ·exact rc_ArrayLen
              ·kernel_rfl
              ·rfl
             ·rfl
            ·apply ok_rule
             ·exact rd_Ok
             ·exact rd_Complete
             ·kernel_rfl
             ·kernel_rfl
             ·rfl
            ·apply cut_rule (sz := 19) (e := 104)
             ·kernel_rfl
             ·rfl
            ·apply grow_rule (e := 104) (zs := #[.string (str []), .int .u8 0, .int .u8 0, .int .u8 0, .int .u8 0, .int .u8 0, .int .u8 0, .int .u8 0, .int .u8 0, .int .u8 0, .int .u8 0, .int .u8 0, .int .u8 0, .int .u8 0, .int .u8 0, .int .u8 0, .int .u8 0, .slice none 0 0, .map none])
             ·kernel_rfl
             ·kernel_rfl
             ·kernel_rfl
             ·rfl
            ·apply loop_rule
             ·apply elem_struct (σ := sFetchRequest_3) (e := 104) (z := from' #[.string (str []), .int .u8 0, .int .u8 0, .int .u8 0, .int .u8 0, .int .u8 0, .int .u8 0, .int .u8 0, .int .u8 0, .int .u8 0, .int .u8 0, .int .u8 0, .int .u8 0, .int .u8 0, .int .u8 0, .int .u8 0, .int .u8 0, .slice none 0 0, .map none] 0) (z0 := (Lay.zeroL sFetchRequest_3.lay, []))
              ·apply blk_seq
               ·apply blk_if
                ·apply tst_and
                 rfl
                ·apply blk_seq
                 ·apply blk_nop
                  rfl
                 ·apply blk_get (i := 0)
                  ·apply get_uns
                   ·apply get_flex
                    ·rfl
                    ·apply get_call
                     ·exact rc_UnsafeCompactString
                     ·kernel_rfl
                     ·rfl
                    ·apply get_call
                     ·exact rc_UnsafeString
                     ·kernel_rfl
                     ·rfl
                    ·rfl
                   ·apply get_flex
                    ·rfl
                    ·apply get_call
                     ·exact rc_CompactString
                     ·kernel_rfl
                     ·rfl
                    ·apply get_call
                     ·exact rc_String
                     ·kernel_rfl
                     ·rfl
                    ·rfl
                   ·rfl
                  ·apply blkV_put
                   ·rfl
                   ·rfl
                   ·kernel_rfl
                   ·kernel_rfl
                   ·rfl
                  ·rfl
                 ·decide
                ·exact blk_skip
                ·rfl
               ·apply blk_seq
                ·apply blk_if
                 ·apply tst_geq
                  rfl
                 ·apply blk_uuid (i := 1)
                  ·exact rc_Uuid
                  ·kernel_rfl
                  ·kernel_rfl
                  ·exact zeroU
                  ·kernel_rfl
                  ·rfl
                  ·rfl
                  ·kernel_rfl
                  ·rfl
                 ·exact blk_skip
                 ·rfl
                ·apply blk_seq
                 ·apply blk_list (i := 2)
                  ·rfl
                  ·rfl
                  ·kernel_rfl
                  ·kernel_rfl
                  ·kernel_rfl
                  ·apply get_flex
                   ·rfl
                   ·apply get_call
                    ·exact rc_CompactArrayLen
                    ·kernel_rfl
                    ·rfl
                   ·apply get_call
                    ·exact rc_ArrayLen
                    ·kernel_rfl
                    ·rfl
                   ·rfl
                  ·apply ok_rule
                   ·exact rd_Ok
                   ·exact rd_Complete
                   ·kernel_rfl
                   ·kernel_rfl
                   ·rfl
                  ·apply cut_rule (sz := 1) (e := 21)
                   ·kernel_rfl
                   ·rfl
                  ·apply grow_rule (e := 21) (zs := #[.int .i32 0])
                   ·kernel_rfl
                   ·kernel_rfl
                   ·kernel_rfl
                   ·rfl
                  ·apply loop_rule
                   ·apply elem_scalar (e := 21)
                    ·apply get_call
                     ·exact rc_Int32
                     ·kernel_rfl
                     ·rfl
                    ·rfl
                    ·rfl
                    ·kernel_rfl
                    ·kernel_rfl
                    ·rfl
                   ·rfl
                  ·rfl
                  ·rfl
                  ·rfl
                 ·apply blk_if
                  ·apply tst_flex
                   ·rfl
                   ·rfl
                  ·apply blk_tag
                   ·exact readTags_spec
                   ·kernel_rfl
                   ·rfl
                   ·kernel_rfl
                   ·kernel_rfl
                   ·rfl
                   ·rfl
                  ·exact blk_skip
                  ·rfl
                 ·decide
                ·decide
               ·decide
              ·exact d_sFetchRequest_3
              ·kernel_rfl
              ·kernel_rfl
              ·rfl
              ·rfl
              ·exact zero_ok (lay := sFetchRequest_3.lay) (tg := sFetchRequest_3.tg) (z := from' #[.string (str []), .int .u8 0, .int .u8 0, .int .u8 0, .int .u8 0, .int .u8 0, .int .u8 0, .int .u8 0, .int .u8 0, .int .u8 0, .int .u8 0, .int .u8 0, .int .u8 0, .int .u8 0, .int .u8 0, .int .u8 0, .int .u8 0, .slice none 0 0, .map none] 0) (by repeat' (first | rfl | trivial | apply And.intro)) (by rfl)
              ·rfl
             ·rfl
            ·rfl
            ·rfl
            ·rfl
           ·exact blk_skip
           ·rfl
          ·apply whole_seq
           ·apply blk_if
            ·apply tst_geq
             rfl
            ·apply blk_seq
             ·apply blk_nop
              rfl
             ·apply blk_get (i := 12)
              ·apply get_uns
               ·apply get_flex
                ·rfl
                ·apply get_call
                 ·exact rc_UnsafeCompactString
                 ·kernel_rfl
                 ·rfl
                ·apply get_call
                 ·exact rc_UnsafeString
                 ·kernel_rfl
                 ·rfl
                ·rfl
               ·apply get_flex
                ·rfl
                ·apply get_call
                 ·exact rc_CompactString
                 ·kernel_rfl
                 ·rfl
                ·apply get_call
                 ·exact rc_String
                 ·kernel_rfl
                 ·rfl
                ·rfl
               ·rfl
              ·apply blkV_put
               ·rfl
               ·rfl
               ·kernel_rfl
               ·kernel_rfl
               ·rfl
              ·rfl
             ·decide
            ·exact blk_skip
            ·rfl
           ·apply whole_seq
            ·apply blk_if
             ·apply tst_flex
              ·rfl
              ·rfl
             ·apply blk_tags (o := 15)
              ·exact uv_C
              ·kernel_rfl
              ·apply sw_case
               ·apply sw_known (o := 15)
                ·exact uv_C
                ·exact sp_C
                ·exact rdT
                ·kernel_rfl
                ·kernel_rfl
                ·kernel_rfl
                ·kernel_rfl
                ·decide
                ·apply blk_seq
                 ·apply blk_nop
                  rfl
                 ·apply blk_get2 (i := 1)
                  ·apply get_flex
                   ·rfl
                   ·apply get_uns
                    ·apply get_call
                     ·exact rc_UnsafeCompactNullableString
                     ·kernel_rfl
                     ·rfl
                    ·apply get_call
                     ·exact rc_CompactNullableString
                     ·kernel_rfl
                     ·rfl
                    ·rfl
                   ·apply get_uns
                    ·apply get_call
                     ·exact rc_UnsafeNullableString
                     ·kernel_rfl
                     ·rfl
                    ·apply get_call
                     ·exact rc_NullableString
                     ·kernel_rfl
                     ·rfl
                    ·rfl
                   ·rfl
                  ·apply blkV_put
                   ·rfl
                   ·rfl
                   ·kernel_rfl
                   ·kernel_rfl
                   ·rfl
                  ·apply blk_end
                   ·exact rd_Complete
                   ·kernel_rfl
                   ·kernel_rfl
                   ·rfl
                  ·rfl
                 ·decide
                ·rfl
               ·apply sw_case
                ·apply sw_known (o := 15)
                 ·exact uv_C
                 ·exact sp_C
                 ·exact rdT
                 ·kernel_rfl
                 ·kernel_rfl
                 ·kernel_rfl
                 ·kernel_rfl
                 ·decide
                 ·apply blk_sub (σ' := sFetchRequest_4) (i := 3)
                  ·apply blk_seq
                   ·apply blk_get (i := 0)
                    ·apply get_call
                     ·exact rc_Int32
                     ·kernel_rfl
                     ·rfl
                    ·apply blkV_put
                     ·rfl
                     ·rfl
                     ·kernel_rfl
                     ·kernel_rfl
                     ·rfl
                    ·rfl
                   ·apply blk_seq
                    ·apply blk_get (i := 1)
                     ·apply get_call
                      ·exact rc_Int64
                      ·kernel_rfl
                      ·rfl
                     ·apply blkV_put
                      ·rfl
                      ·rfl
                      ·kernel_rfl
                      ·kernel_rfl
                      ·rfl
                     ·rfl
                    ·apply blk_seq
                     ·apply blk_if
                      ·apply tst_flex
                       ·rfl
                       ·rfl
                      ·apply blk_tag
                       ·exact readTags_spec
                       ·kernel_rfl
                       ·rfl
                       ·kernel_rfl
                       ·kernel_rfl
                       ·rfl
                       ·rfl
                      ·exact blk_skip
                      ·rfl
                     ·apply blk_end
                      ·exact rd_Complete
                      ·kernel_rfl
                      ·kernel_rfl
                      ·rfl
                     ·decide
                    ·decide
                   ·decide
                  ·exact d_sFetchRequest_4
                  ·kernel_rfl
                  ·rfl
                  ·rfl
                  ·kernel_rfl
                  ·rfl
                 ·rfl
                ·apply sw_set
                 ·rfl
                 ·exact uv_C
                 ·exact sp_C
                 ·exact setTag_spec
                 ·kernel_rfl
                 ·kernel_rfl
                 ·kernel_rfl
                 ·kernel_rfl
                 ·kernel_rfl
                 ·kernel_rfl
                 ·rfl
                 ·decide
                 ·rfl
                ·rfl
               ·rfl
              ·rfl
              ·decide
              ·rfl
             ·exact blk_skip
             ·rfl
            ·apply whole_end
             ·exact rd_Complete
             ·kernel_rfl
             ·rfl
            ·rfl
           ·rfl
          ·rfl
         ·rfl
        ·rfl
       ·rfl
      ·rfl
     ·rfl
    ·rfl
   ·rfl
  ·rfl
 ·apply ns_readK (A := [10, 11])
  ·repeat' (first | (with_reducible (first | exact nse_ok | exact ns_tag | exact ns_id | exact ns_put | exact ns_end | exact ntf_tag | exact ntf_id | apply ntf_lastid | apply ntf_tags | exact ntc_set | apply ntc_sw | apply ntc_case | exact kt_put | exact kt_id | exact kt_list | exact kt_sub | apply kt_if | apply kt_then | apply ns_skip | apply ns_list | apply ns_sub | apply ns_psub | apply nse_structK | apply ntf_if | apply ntf_then | apply ns_if | apply ns_then)) | rfl)
  ·intro ver; rfl
  ·intro ver; rfl
end Go.Proofs.YtcldbjehliladaaDoor
set_option linter.unusedSimpArgs false
set_option linter.unusedVariables false
namespace Go.Proofs.YtcldbjehliladaaDoor
open Go Go.RowKit
theorem new_FetchRequest : NewC Tryd.prog 32 sFetchRequest v_FetchRequest := by
 refine new_rule (z := .agg #[.int .i16 0, .pointer none, .int .i32 0, .int .i32 0, .int .i64 0, .map none, .int .i32 0, .int .i32 0, .int .i32 0, .int .i8 0, .int .i32 0, .int .i32 0, .slice none 0 0, .slice none 0 0, .string (str []), .map none]) Tryd.func32 rfl rfl rfl (by kernel_rfl) (by decide) (fun w => ?_) d_sFetchRequest (by kernel_rfl)
 exact zero_ok (lay := sFetchRequest.lay) (tg := sFetchRequest.tg) (z := from' #[.int .i16 0, .pointer none, .int .i32 0, .int .i32 0, .int .i64 0, .map none, .int .i32 0, .int .i32 0, .int .i32 0, .int .i8 0, .int .i32 0, .int .i32 0, .slice none 0 0, .slice none 0 0, .string (str []), .map none] 0) (by repeat' (first | rfl | trivial | apply And.intro)) (by rfl) w _
theorem set_FetchRequest : SetC Tryd.prog 34 sFetchRequest :=
 set_rule Tryd.func34 rfl rfl rfl (by kernel_rfl) (by kernel_rfl) rfl rfl rfl (by decide)
set_option maxRecDepth 100000 in
theorem tell_FetchRequest_t51 : ∃ G, TellC Tryd.prog 51 sFetchRequest_4 G := by
 apply Exists.intro
 apply tell_plain (N := 32) (n := 2) (hf := Tryd.func51) (hN := rfl) (hres := rfl) (hT := tellT) (hok := by rfl) (h4 := by decide) (hne := by decide) (hn := by decide) (hbody := rfl)
 ·apply twhole_seq
  ·apply tell_num (i := 0) (o := 0) (kd := .i32) tellT
   ·kernel_rfl
   ·kernel_rfl
   ·exact kd_i32
   ·kernel_rfl
   ·kernel_rfl
   ·rfl
   ·rfl
   ·decide
  ·apply twhole_seq
   ·apply tell_num64 (i := 1) (o := 1) tellT
    ·kernel_rfl
    ·kernel_rfl
    ·rfl
    ·rfl
    ·decide
   ·exact twhole_tags tellT tagT rfl (by kernel_rfl) (by rfl) (by kernel_rfl) (by kernel_rfl) (by kernel_rfl) each_spec sorted_spec (clo_rule Tryd.func92 rfl rfl tagT rfl)
set_option maxRecDepth 100000 in
theorem tell_FetchRequest_t93 : ∃ G, TellC Tryd.prog 93 sFetchRequest_2 G := by
 apply Exists.intro
 apply tell_plain (N := 84) (n := 8) (hf := Tryd.func93) (hN := rfl) (hres := rfl) (hT := tellT) (hok := by rfl) (h4 := by decide) (hne := by decide) (hn := by decide) (hbody := rfl)
 ·apply twhole_seq
  ·apply tell_num (i := 0) (o := 0) (kd := .i32) tellT
   ·kernel_rfl
   ·kernel_rfl
   ·exact kd_i32
   ·kernel_rfl
   ·kernel_rfl
   ·rfl
   ·rfl
   ·decide
  ·apply twhole_seq
   ·apply tell_num (i := 1) (o := 1) (kd := .i32) tellT
    ·kernel_rfl
    ·kernel_rfl
    ·exact kd_i32
    ·kernel_rfl
    ·kernel_rfl
    ·rfl
    ·rfl
    ·decide
   ·apply twhole_seq
    ·apply tell_num64 (i := 2) (o := 2) tellT
     ·kernel_rfl
     ·kernel_rfl
     ·rfl
     ·rfl
     ·decide
    ·apply twhole_seq
     ·apply tell_num (i := 3) (o := 3) (kd := .i32) tellT
      ·kernel_rfl
      ·kernel_rfl
      ·exact kd_i32
      ·kernel_rfl
      ·kernel_rfl
      ·rfl
      ·rfl
      ·decide
     ·apply twhole_seq
      ·apply tell_num64 (i := 4) (o := 4) tellT
       ·kernel_rfl
       ·kernel_rfl
       ·rfl
       ·rfl
       ·decide
      ·apply twhole_seq
       ·apply tell_num (i := 5) (o := 5) (kd := .i32) tellT
        ·kernel_rfl
        ·kernel_rfl
        ·exact kd_i32
        ·kernel_rfl
        ·kernel_rfl
        ·rfl
        ·rfl
        ·decide
       ·apply twhole_seq
        ·apply tell_uuid (i := 6) (o := 6) (eb := 5) tellT
         ·kernel_rfl
         ·kernel_rfl
         ·kernel_rfl
         ·rfl
         ·rfl
         ·decide
        ·apply twhole_seq
         ·apply tell_num64 (i := 7) (o := 22) tellT
          ·kernel_rfl
          ·kernel_rfl
          ·rfl
          ·rfl
          ·decide
         ·exact twhole_tags tellT tagT rfl (by kernel_rfl) (by rfl) (by kernel_rfl) (by kernel_rfl) (by kernel_rfl) each_spec sorted_spec (clo_rule Tryd.func111 rfl rfl tagT rfl)
set_option maxRecDepth 100000 in
theorem tell_FetchRequest_t52 : ∃ G, TellC Tryd.prog 52 sFetchRequest_1 G := by
 obtain ⟨GFetchRequest_t93, hGFetchRequest_t93⟩ := tell_FetchRequest_t93
 apply Exists.intro
 apply tell_plain (N := 90) (n := 3) (hf := Tryd.func52) (hN := rfl) (hres := rfl) (hT := tellT) (hok := by rfl) (h4 := by decide) (hne := by decide) (hn := by decide) (hbody := rfl)
 ·apply twhole_seq
  ·apply tell_str (i := 0) (o := 0) (eb := 5) tellT
   ·kernel_rfl
   ·kernel_rfl
   ·kernel_rfl
   ·rfl
   ·rfl
   ·decide
  ·apply twhole_seq
   ·apply tell_uuid (i := 1) (o := 1) (eb := 5) tellT
    ·kernel_rfl
    ·kernel_rfl
    ·kernel_rfl
    ·rfl
    ·rfl
    ·decide
   ·apply twhole_list (i := 2) (E := (structT GFetchRequest_t93))
    ·apply nul_list (i := 2) (o := 17) tellT
     ·kernel_rfl
     ·kernel_rfl
     ·kernel_rfl
     ·kernel_rfl
     ·kernel_rfl
     ·rfl
     ·rfl
     ·decide
     ·decide
    ·apply loop_list (i := 2) (o := 17)
     ·apply app0_call (es := 132) tellT
      ·exact hGFetchRequest_t93
      ·kernel_rfl
      ·rfl
      ·rfl
      ·kernel_rfl
      ·kernel_rfl
      ·kernel_rfl
      ·rfl
      ·kernel_rfl
      ·rfl
      ·decide
      ·decide
     ·apply app1_call (es := 132) tellT
      ·exact hGFetchRequest_t93
      ·kernel_rfl
      ·rfl
      ·rfl
      ·kernel_rfl
      ·kernel_rfl
      ·kernel_rfl
      ·rfl
      ·kernel_rfl
      ·rfl
      ·decide
      ·decide
     ·rfl
     ·exact ⟨.bool false, by kernel_rfl, rfl⟩
     ·kernel_rfl
     ·kernel_rfl
     ·kernel_rfl
     ·kernel_rfl
     ·kernel_rfl
     ·rfl
     ·rfl
     ·rfl
    ·exact twhole_tags tellT tagT rfl (by kernel_rfl) (by rfl) (by kernel_rfl) (by kernel_rfl) (by kernel_rfl) each_spec sorted_spec (clo_rule Tryd.func94 rfl rfl tagT rfl)
set_option maxRecDepth 100000 in
theorem tell_FetchRequest_t53 : ∃ G, TellC Tryd.prog 53 sFetchRequest_3 G := by
 apply Exists.intro
 apply tell_plain (N := 94) (n := 3) (hf := Tryd.func53) (hN := rfl) (hres := rfl) (hT := tellT) (hok := by rfl) (h4 := by decide) (hne := by decide) (hn := by decide) (hbody := rfl)
 ·apply twhole_seq
  ·apply tell_str (i := 0) (o := 0) (eb := 5) tellT
   ·kernel_rfl
   ·kernel_rfl
   ·kernel_rfl
   ·rfl
   ·rfl
   ·decide
  ·apply twhole_seq
   ·apply tell_uuid (i := 1) (o := 1) (eb := 5) tellT
    ·kernel_rfl
    ·kernel_rfl
    ·kernel_rfl
    ·rfl
    ·rfl
    ·decide
   ·apply twhole_list (i := 2) (E := id)
    ·apply nul_list (i := 2) (o := 17) tellT
     ·kernel_rfl
     ·kernel_rfl
     ·kernel_rfl
     ·kernel_rfl
     ·kernel_rfl
     ·rfl
     ·rfl
     ·decide
     ·decide
    ·apply loop_list (i := 2) (o := 17)
     ·apply app0_num (kd := .i32) tellT
      ·kernel_rfl
      ·kernel_rfl
      ·exact kd_i32
      ·kernel_rfl
      ·kernel_rfl
      ·kernel_rfl
      ·kernel_rfl
      ·rfl
      ·kernel_rfl
      ·rfl
      ·decide
      ·decide
     ·apply app1_num (kd := .i32) tellT
      ·kernel_rfl
      ·kernel_rfl
      ·exact kd_i32
      ·kernel_rfl
      ·kernel_rfl
      ·kernel_rfl
      ·kernel_rfl
      ·rfl
      ·kernel_rfl
      ·rfl
      ·decide
      ·decide
     ·rfl
     ·exact ⟨.bool false, by kernel_rfl, rfl⟩
     ·kernel_rfl
     ·kernel_rfl
     ·kernel_rfl
     ·kernel_rfl
     ·kernel_rfl
     ·rfl
     ·rfl
     ·rfl
    ·exact twhole_tags tellT tagT rfl (by kernel_rfl) (by rfl) (by kernel_rfl) (by kernel_rfl) (by kernel_rfl) each_spec sorted_spec (clo_rule Tryd.func95 rfl rfl tagT rfl)
set_option maxRecDepth 100000 in
theorem tell_FetchRequest : ∃ G, TellC Tryd.prog 36 sFetchRequest G := by
 obtain ⟨GFetchRequest_t51, hGFetchRequest_t51⟩ := tell_FetchRequest_t51
 obtain ⟨GFetchRequest_t52, hGFetchRequest_t52⟩ := tell_FetchRequest_t52
 obtain ⟨GFetchRequest_t53, hGFetchRequest_t53⟩ := tell_FetchRequest_t53
 apply Exists.intro
 apply tell_plain (N := 216) (n := 12) (hf := Tryd.func36) (hN := rfl) (hres := rfl) (hT := tellT) (hok := by rfl) (h4 := by decide) (hne := by decide) (hn := by decide) (hbody := rfl)
 ·apply twhole_seq
  ·apply tell_leaf (i := 1) (o := 1) tellT (leaf_text tellT)
   ·kernel_rfl
   ·rfl
   ·kernel_rfl
   ·kernel_rfl
   ·rfl
   ·rfl
   ·decide
  ·apply twhole_seq
   ·apply tell_num (i := 2) (o := 2) (kd := .i32) tellT
    ·kernel_rfl
    ·kernel_rfl
    ·exact kd_i32
    ·kernel_rfl
    ·kernel_rfl
    ·rfl
    ·rfl
    ·decide
   ·apply twhole_seq
    ·apply tell_part (i := 3) (o := 3) tellT
     ·exact hGFetchRequest_t51
     ·kernel_rfl
     ·kernel_rfl
     ·rfl
     ·rfl
     ·rfl
     ·decide
    ·apply twhole_seq
     ·apply tell_num (i := 4) (o := 6) (kd := .i32) tellT
      ·kernel_rfl
      ·kernel_rfl
      ·exact kd_i32
      ·kernel_rfl
      ·kernel_rfl
      ·rfl
      ·rfl
      ·decide
     ·apply twhole_seq
      ·apply tell_num (i := 5) (o := 7) (kd := .i32) tellT
       ·kernel_rfl
       ·kernel_rfl
       ·exact kd_i32
       ·kernel_rfl
       ·kernel_rfl
       ·rfl
       ·rfl
       ·decide
      ·apply twhole_seq
       ·apply tell_num (i := 6) (o := 8) (kd := .i32) tellT
        ·kernel_rfl
        ·kernel_rfl
        ·exact kd_i32
        ·kernel_rfl
        ·kernel_rfl
        ·rfl
        ·rfl
        ·decide
       ·apply twhole_seq
        ·apply tell_num (i := 7) (o := 9) (kd := .i8) tellT
         ·kernel_rfl
         ·kernel_rfl
         ·exact kd_i8
         ·kernel_rfl
         ·kernel_rfl
         ·rfl
         ·rfl
         ·decide
        ·apply twhole_seq
         ·apply tell_num (i := 8) (o := 10) (kd := .i32) tellT
          ·kernel_rfl
          ·kernel_rfl
          ·exact kd_i32
          ·kernel_rfl
          ·kernel_rfl
          ·rfl
          ·rfl
          ·decide
         ·apply twhole_seq
          ·apply tell_num (i := 9) (o := 11) (kd := .i32) tellT
           ·kernel_rfl
           ·kernel_rfl
           ·exact kd_i32
           ·kernel_rfl
           ·kernel_rfl
           ·rfl
           ·rfl
           ·decide
          ·apply twhole_list (i := 10) (E := (structT GFetchRequest_t52))
           ·apply nul_list (i := 10) (o := 12) tellT
            ·kernel_rfl
            ·kernel_rfl
            ·kernel_rfl
            ·kernel_rfl
            ·kernel_rfl
            ·rfl
            ·rfl
            ·decide
            ·decide
           ·apply loop_list (i := 10) (o := 12)
            ·apply app0_call (es := 99) tellT
             ·exact hGFetchRequest_t52
             ·kernel_rfl
             ·rfl
             ·rfl
             ·kernel_rfl
             ·kernel_rfl
             ·kernel_rfl
             ·rfl
             ·kernel_rfl
             ·rfl
             ·decide
             ·decide
            ·apply app1_call (es := 99) tellT
             ·exact hGFetchRequest_t52
             ·kernel_rfl
             ·rfl
             ·rfl
             ·kernel_rfl
             ·kernel_rfl
             ·kernel_rfl
             ·rfl
             ·kernel_rfl
             ·rfl
             ·decide
             ·decide
            ·rfl
            ·exact ⟨.bool false, by kernel_rfl, rfl⟩
            ·kernel_rfl
            ·kernel_rfl
            ·kernel_rfl
            ·kernel_rfl
            ·kernel_rfl
            ·rfl
            ·rfl
            ·rfl
           ·apply twhole_list (i := 11) (E := (structT GFetchRequest_t53))
            ·apply nul_list (i := 11) (o := 13) tellT
             ·kernel_rfl
             ·kernel_rfl
             ·kernel_rfl
             ·kernel_rfl
             ·kernel_rfl
             ·rfl
             ·rfl
             ·decide
             ·decide
            ·apply loop_list (i := 11) (o := 13)
             ·apply app0_call (es := 104) tellT
              ·exact hGFetchRequest_t53
              ·kernel_rfl
              ·rfl
              ·rfl
              ·kernel_rfl
              ·kernel_rfl
              ·kernel_rfl
              ·rfl
              ·kernel_rfl
              ·rfl
              ·decide
              ·decide
             ·apply app1_call (es := 104) tellT
              ·exact hGFetchRequest_t53
              ·kernel_rfl
              ·rfl
              ·rfl
              ·kernel_rfl
              ·kernel_rfl
              ·kernel_rfl
              ·rfl
              ·kernel_rfl
              ·rfl
              ·decide
              ·decide
             ·rfl
             ·exact ⟨.bool false, by kernel_rfl, rfl⟩
             ·kernel_rfl
             ·kernel_rfl
             ·kernel_rfl
             ·kernel_rfl
             ·kernel_rfl
             ·rfl
             ·rfl
             ·rfl
            ·apply twhole_seq
             ·apply tell_str (i := 12) (o := 14) (eb := 5) tellT
              ·kernel_rfl
              ·kernel_rfl
              ·kernel_rfl
              ·rfl
              ·rfl
              ·decide
             ·exact twhole_tags tellT tagT rfl (by kernel_rfl) (by rfl) (by kernel_rfl) (by kernel_rfl) (by kernel_rfl) each_spec sorted_spec (clo_rule Tryd.func54 rfl rfl tagT rfl)
theorem doors_FetchRequest : ∃ ft v1 G, DoorC Tryd.prog 17 Zf ft v1 G /\ DoorC Tryd.prog 18 Zf ft v1 G /\ NsI ft v1 := by
 obtain ⟨ft, hr, hns⟩ := read_FetchRequest
 obtain ⟨G, hG⟩ := tell_FetchRequest
 refine ⟨ft, v_FetchRequest, G, ?_, ?_, hns⟩
 ·exact door_rule Tryd.func17 rfl rfl tellT rfl (by kernel_rfl) (by kernel_rfl) (by kernel_rfl) (by kernel_rfl) (by kernel_rfl) (by kernel_rfl) (eb := 5) (by kernel_rfl) (by kernel_rfl) new_FetchRequest set_FetchRequest (rf_rule Tryd.func35 rfl rfl rfl hr (by kernel_rfl)) hG (by decide)
 ·exact door_rule Tryd.func18 rfl rfl tellT rfl (by kernel_rfl) (by kernel_rfl) (by kernel_rfl) (by kernel_rfl) (by kernel_rfl) (by kernel_rfl) (eb := 5) (by kernel_rfl) (by kernel_rfl) new_FetchRequest set_FetchRequest (rf_rule Tryd.func37 rfl rfl rfl hr (by kernel_rfl)) hG (by decide)
end Go.Proofs.YtcldbjehliladaaDoor
set_option linter.unusedSimpArgs false
set_option linter.unusedVariables false
namespace Go.Proofs.YtcldbjehliladaaDoor
open Go Go.RowKit
theorem max_FetchRequest (w : World) : Calls Tryd.prog 16 #[] w fun e w' => e = .returned (.int .i64 (18 : Int)) /\ Mod none' w w' := by
 refine calls_of_wp Tryd.func16 rfl ?_
 refine wp_act (fun a : Act => a.tmps.size = 4 /\ a.defers = []) ⟨rfl, rfl⟩ ?_
 rintro a ⟨aN, ad⟩
 refine wp_seq (wp_region_lit (Zv rfl Zi (wpList_nil ?_)))
 refine wp_seq (wp_region_lit (wpl_call rfl (Zy (by kernel_rfl) rfl) (R := fun e w' => e = .returned (.pointer (some ⟨w.heap.size, 0, none⟩)) /\ Mod none' w w' /\ w.heap.size < w'.heap.size /\ Cur sFetchRequest none' w.heap.size 0 v_FetchRequest w') (by simpa using new_FetchRequest w) ?_))
 rintro e w1 ⟨rfl, m1, _, _⟩
 refine ⟨_, rfl, wpl_call rfl (Zy (by kernel_rfl) rfl) (R := fun e w' => e = .returned (.int .i16 18) /\ w1 = w') ?_ ?_⟩
 ·go_enter Tryd.func33, Tryd.ntmps33
  go_wp2
  go_ret
  exact ⟨rfl, rfl⟩
 rintro e w2 ⟨rfl, rfl⟩
 refine ⟨_, rfl, Zv rfl (x_convInt (n := 18) (k := .i16) (k' := .i64) (by kernel_rfl) (by kernel_rfl) ?_) (Zv rfl Zi (wpList_nil ?_))⟩
 ·simp (disch := first | omega | simp only [Zs]; omega) only [Zo, Ze, Zn, Zq]
 refine wp_act (c := .ret) (fun a : Act => Act.get a 0 = .int .i64 18 /\ a.defers = []) ⟨?_, ?_⟩ ?_
 ·simp (disch := first | omega | simp only [Zs]; omega) only [Zo, Ze, Zn, Zq]
  rfl
 ·simp only [Zd]; exact ad
 rintro a9 ⟨z0, zd⟩
 exact wp_ret (bodyPost_ret (results_tmp rfl _ _ _) zd ⟨congrArg Ending.returned z0, m1⟩)
set_option maxHeartbeats 1000000 in
set_option maxRecDepth 20000 in
theorem law_FetchRequest {w : World} {n : Int} {srcv : Value} {bs : List UInt8} {ev : Value} (hE : ErrIs w ev) (hev : ∃ tx vx, ev = .iface tx vx) (hsrc : Srcs w srcv bs) :
  Calls Tryd.prog 5 #[.int .u8 n, srcv] w fun e w' => e = .returned (.bool true) /\ Mod none' w w' := by
 obtain ⟨ft, V0, G, hd1, hd2, hns⟩ := doors_FetchRequest
 obtain ⟨ao, cap, hsl⟩ := hsrc.shape
 refine calls_of_wp Tryd.func5 rfl ?_
 show Code.wp _ _ _ { tmps := (#[.int .u8 n, srcv] : Array Value) ++ Array.replicate (49 - (#[.int .u8 n, srcv] : Array Value).size) undef, defers := [] } w
 refine wp_act (fun a : Act => Act.get a 0 = .int .u8 n /\ Act.get a 1 = srcv /\ a.tmps.size = 49 /\ a.defers = []) ⟨?_, ?_, ?_, rfl⟩ ?_
 ·rw [Zj _ _ _ (by simp)]; rfl
 ·rw [Zj _ _ _ (by simp)]; rfl
 ·simp
 rintro a ⟨a0, a1, aN, ad⟩
 refine wp_seq (wp_region_lit (Zv rfl Zi (wpList_nil ?_)))
 refine wp_seq (wp_seq (wp_region_lit (Zv rfl Zm (Zv rfl (x_len (by kernel_rfl) rfl (ao := ao) (cap := cap) (n := bs.length) ?_) (Zv rfl (x_gtr (k := .i64) (m := bs.length) (n := 2147483647) ?_ rfl) (wpList_nil ?_))))))
 ·simp (disch := first | omega | simp only [Zs]; omega) only [Zo, Ze, Zn, Zq, a1, hsl]
 ·simp (disch := first | omega | simp only [Zs]; omega) only [Zo, Ze, Zn, Zq]
 by_cases hbig : (2147483647 : Int) < bs.length
 ·refine wp_cond_true ?_ (wp_seq (wp_region_lit (Zv rfl Zi (wpList_nil (wp_ret ?_)))))
  ·simp (disch := first | omega | simp only [Zs]; omega) only [Zo, Ze, Zn, Zq]
   simpa using hbig
  ·simp only [Exit.then]
   refine bodyPost_ret (results_tmp rfl _ _ _) ?_ ⟨?_, .refl w⟩
   ·simp only [Zd]; exact ad
   ·rw [show ∀ (a : Act), a.tmps.getD 4 undef = Act.get a 4 from fun _ => rfl]
    simp (disch := first | omega | simp only [Zs]; omega) only [Zo, Ze, Zn, Zq]
    rfl
 refine wp_cond_false ?_ (wp_skip ?_)
 ·simp (disch := first | omega | simp only [Zs]; omega) only [Zo, Ze, Zn, Zq]
  simpa using hbig
 refine wp_act (fun a : Act => Act.get a 0 = .int .u8 n /\ Act.get a 1 = srcv /\ a.tmps.size = 49 /\ a.defers = []) ⟨?_, ?_, ?_, ?_⟩ ?_
 ·simp (disch := first | omega | simp only [Zs]; omega) only [Zo, Ze, Zn, Zq, a0]
 ·simp (disch := first | omega | simp only [Zs]; omega) only [Zo, Ze, Zn, Zq, a1]
 ·simp only [Zs]; exact aN
 ·simp only [Zd]; exact ad
 clear a0 a1 aN ad
 rintro a ⟨a0, a1, aN, ad⟩
 refine wp_seq (wp_region_lit (wpl_call rfl (Zy (by kernel_rfl) rfl) (R := fun e w' => e = .returned (.int .i64 (18 : Int)) /\ Mod none' w w') (by simpa using max_FetchRequest w) ?_))
 rintro e w1 ⟨rfl, m1⟩
 refine ⟨_, rfl, Zv rfl Zi (wpList_nil ?_)⟩
 refine wp_seq (wp_seq (wp_region_lit (Zv rfl Zm (Zv rfl (x_lss (k := .i64) (m := 18) (n := 0) ?_ rfl) (wpList_nil ?_)))))
 ·simp (disch := first | omega | simp only [Zs]; omega) only [Zo, Ze, Zn, Zq]
 refine wp_cond_false ?_ (wp_skip ?_)
 ·simp (disch := first | omega | simp only [Zs]; omega) only [Zo, Ze, Zn, Zq]
  rfl
 refine wp_seq (wp_seq (wp_region_lit (Zv rfl Zm (Zv rfl (x_len (by kernel_rfl) rfl (ao := ao) (cap := cap) (n := bs.length) ?_) (Zv rfl (x_gtr (k := .i64) (m := bs.length) (n := 1000) ?_ rfl) (wpList_nil ?_))))))
 ·simp (disch := first | omega | simp only [Zs]; omega) only [Zo, Ze, Zn, Zq, a1, hsl]
 ·simp (disch := first | omega | simp only [Zs]; omega) only [Zo, Ze, Zn, Zq]
 by_cases hmid : (1000 : Int) < bs.length
 ·refine wp_cond_true ?_ (wp_seq (wp_region_lit (Zv rfl Zi (wpList_nil (wp_ret ?_)))))
  ·simp (disch := first | omega | simp only [Zs]; omega) only [Zo, Ze, Zn, Zq]
   simpa using hmid
  ·simp only [Exit.then]
   refine bodyPost_ret (results_tmp rfl _ _ _) ?_ ⟨?_, m1⟩
   ·simp only [Zd]; exact ad
   ·rw [show ∀ (a : Act), a.tmps.getD 4 undef = Act.get a 4 from fun _ => rfl]
    simp (disch := first | omega | simp only [Zs]; omega) only [Zo, Ze, Zn, Zq]
    rfl
 refine wp_cond_false ?_ (wp_skip ?_)
 ·simp (disch := first | omega | simp only [Zs]; omega) only [Zo, Ze, Zn, Zq]
  simpa using hmid
 have hbl : bs.length <= 4294967295 := by omega
 refine wp_act (fun a : Act => Act.get a 0 = .int .u8 n /\ Act.get a 1 = srcv /\ Act.get a 5 = .int .i64 18 /\ a.tmps.size = 49 /\ a.defers = []) ⟨?_, ?_, ?_, ?_, ?_⟩ ?_
 ·simp (disch := first | omega | simp only [Zs]; omega) only [Zo, Ze, Zn, Zq, a0]
 ·simp (disch := first | omega | simp only [Zs]; omega) only [Zo, Ze, Zn, Zq, a1]
 ·simp (disch := first | omega | simp only [Zs]; omega) only [Zo, Ze, Zn, Zq]
 ·simp only [Zs]; exact aN
 ·simp only [Zd]; exact ad
 clear a0 a1 aN ad
 rintro a ⟨a0, a1, a5, aN, ad⟩
 have hv : IntKind.i64.wrap ((18 : Int) + 1) ≠ 0 := by decide
 obtain ⟨k, hk⟩ : ∃ k, k = (IntKind.i64.wrap n).tmod (IntKind.i64.wrap ((18 : Int) + 1)) := ⟨_, rfl⟩
 have hver : ∀ w, Calls Tryd.prog 14 #[.int .u8 n, .int .i64 18] w fun e w' => e = .returned (.int .i64 k) /\ w = w' := fun w => by rw [hk]; exact version_spec hv w
 clear hk
 obtain ⟨z, hz, hz5⟩ : ∃ z, zeroOf Tryd.prog 26 = some z /\ z.cells.size = 5 := ⟨_, tellT.zero, rfl⟩
 -- told
 have hE1 := hE.mod m1 (fun f => f)
 have hsrc1 := hsrc.mod m1
 refine wp_seq (wp_region_lit (Zv rfl Zm (Zv rfl Zm (wpl_call rfl (Zy (by kernel_rfl) rfl) (R := fun e w' => e = .returned (.int .i64 k) /\ w1 = w') ?_ ?_))))
 ·rw [show ∀ a : Act, (#[Operand.tmp 20, Operand.tmp 21] : Array Operand).map a.eval = #[Act.get a 20, Act.get a 21] from fun a => by simp [Ze]]
  simp (disch := first | omega | simp only [Zs]; omega) only [Zo, Ze, Zn, Zq, a0, a5]
  exact hver w1
 rintro e w' ⟨rfl, rfl⟩
 refine ⟨_, rfl, Zv rfl Zm (wpl_call rfl (Zy (by kernel_rfl) rfl) (R := fun e w' => ∃ cs ok, e = .returned (.tuple #[.agg cs, .bool ok]) /\ Mod none' w1 w' /\ cs.size = 5 /\ cs.all (·.oneCell') = true /\
   match ft (IntKind.i16.wrap k) (Zf (IntKind.i16.wrap k)) (V0.1.set 0 (.num (IntKind.i16.wrap k)), V0.2) ⟨bs, bs.isEmpty, false⟩ with
   | .ok v' s' => ok = !s'.bad /\ (ok = true -> TreeR w' (From w1) (from' cs 0) (.part (G v') v'.2))
   | .early => ok = false
   | .stuck => False) ?_ ?_)⟩
 ·rw [show ∀ a : Act, (#[Operand.tmp 22, Operand.tmp 23] : Array Operand).map a.eval = #[Act.get a 22, Act.get a 23] from fun a => by simp [Ze]]
  simp (disch := first | omega | simp only [Zs]; omega) only [Zo, Ze, Zn, Zq, a1]
  exact hd1 k srcv bs ev w1 hE1 hev hsrc1 hbl (hns _ _ _)
 rintro e v1 ⟨cs1, ok1, rfl, n1, q1, r1, t1⟩
 refine ⟨_, rfl, Zv rfl Zm (Zv rfl (x_extract (vs := #[.agg cs1, .bool ok1]) (i := 0) (v := .agg cs1) ?_ rfl) (Zv rfl (x_extract (vs := #[.agg cs1, .bool ok1]) (i := 1) (v := .bool ok1) ?_ rfl) (Zv rfl (x_alloc hz) ?_)))⟩
 ·simp (disch := first | omega | simp only [Zs]; omega) only [Zo, Ze, Zn, Zq]
 ·simp (disch := first | omega | simp only [Zs]; omega) only [Zo, Ze, Zn, Zq]
 have b1 := Zh v1 (.cells z.cells TI)
 have o1 : Mod none' v1 (v1.alloc (.cells z.cells TI)) := (Mod.refl v1).alloc _
 have l1 : (v1.alloc (.cells z.cells TI)).heap.size = v1.heap.size + 1 := by simp
 refine wpl_skip rfl (x_storeN (cs := cs1) (b := v1.heap.size) (o := 0) (by rw [q1]; kernel_rfl) ?_ ?_ r1 ?_) (Zv rfl Zi (wpList_nil ?_))
 ·simp (disch := first | omega | simp only [Zs]; omega) only [Zo, Ze, Zn, Zq]
 ·simp (disch := first | omega | simp only [Zs]; omega) only [Zo, Ze, Zn, Zq]
 ·intro j hj
  rw [Zc b1, Zz b1, Array.getElem?_eq_getElem (by omega)]
  exact ⟨rfl, rfl⟩
 obtain ⟨C1, k1, k2, k3, k4⟩ := heap_setCells (w := v1.alloc (.cells z.cells TI)) cs1.toList 0 _ b1
 have hC1 : C1 = cs1 := by
  apply Array.ext
  ·omega
  ·intro i h1 h2
   have := k3 i (by simpa using h2) (by omega)
   rw [Nat.zero_add, Array.getElem?_eq_getElem h1] at this
   simpa [h2] using this
 subst hC1
 have p1 := mod_setCells v1.heap.size (v1.alloc (.cells z.cells TI)) 0 C1.toList
 have pp1 : Mod none' v1 ((v1.alloc (.cells z.cells TI)).setCells v1.heap.size 0 C1.toList) := o1.trans' p1 (fun _ _ f => f) (fun j hj e => by have : j = v1.heap.size := e; omega)
 generalize (v1.alloc (.cells z.cells TI)).setCells v1.heap.size 0 C1.toList = u1 at *
 obtain ⟨x1, hx1⟩ : ∃ x, x = v1.heap.size := ⟨_, rfl⟩
 rw [<- hx1] at k1 ⊢
 have kk1 := k1
 clear k1 k2 k3 k4
 refine wp_act (fun a : Act => Act.get a 0 = .int .u8 n /\ Act.get a 1 = srcv /\ Act.get a 5 = .int .i64 18 /\ Act.get a 6 = .pointer (some ⟨x1, 0, none⟩) /\ Act.get a 7 = .bool ok1 /\ a.tmps.size = 49 /\ a.defers = []) ⟨?_, ?_, ?_, ?_, ?_, ?_, ?_⟩ ?_
 ·simp (disch := first | omega | simp only [Zs]; omega) only [Zo, Ze, Zn, Zq, a0]
 ·simp (disch := first | omega | simp only [Zs]; omega) only [Zo, Ze, Zn, Zq, a1]
 ·simp (disch := first | omega | simp only [Zs]; omega) only [Zo, Ze, Zn, Zq, a5]
 ·simp (disch := first | omega | simp only [Zs]; omega) only [Zo, Ze, Zn, Zq]
 ·simp (disch := first | omega | simp only [Zs]; omega) only [Zo, Ze, Zn, Zq]
 ·simp only [Zs]; exact aN
 ·simp only [Zd]; exact ad
 clear a0 a1 a5 aN ad
 rintro a ⟨a0, a1, a5, a6, a7, aN, ad⟩
 have nn1 := n1.trans pp1
 have hE2 := hE1.mod nn1 (fun f => f)
 have hsrc2 := hsrc1.mod nn1
 refine wp_seq (wp_region_lit (Zv rfl Zm (Zv rfl Zm (wpl_call rfl (Zy (by kernel_rfl) rfl) (R := fun e w' => e = .returned (.int .i64 k) /\ u1 = w') ?_ ?_))))
 ·rw [show ∀ a : Act, (#[Operand.tmp 28, Operand.tmp 29] : Array Operand).map a.eval = #[Act.get a 28, Act.get a 29] from fun a => by simp [Ze]]
  simp (disch := first | omega | simp only [Zs]; omega) only [Zo, Ze, Zn, Zq, a0, a5]
  exact hver u1
 rintro e w' ⟨rfl, rfl⟩
 refine ⟨_, rfl, Zv rfl Zm (wpl_call rfl (Zy (by kernel_rfl) rfl) (R := fun e w' => ∃ cs ok, e = .returned (.tuple #[.agg cs, .bool ok]) /\ Mod none' u1 w' /\ cs.size = 5 /\ cs.all (·.oneCell') = true /\
   match ft (IntKind.i16.wrap k) (Zf (IntKind.i16.wrap k)) (V0.1.set 0 (.num (IntKind.i16.wrap k)), V0.2) ⟨bs, bs.isEmpty, false⟩ with
   | .ok v' s' => ok = !s'.bad /\ (ok = true -> TreeR w' (From u1) (from' cs 0) (.part (G v') v'.2))
   | .early => ok = false
   | .stuck => False) ?_ ?_)⟩
 ·rw [show ∀ a : Act, (#[Operand.tmp 30, Operand.tmp 31] : Array Operand).map a.eval = #[Act.get a 30, Act.get a 31] from fun a => by simp [Ze]]
  simp (disch := first | omega | simp only [Zs]; omega) only [Zo, Ze, Zn, Zq, a1]
  exact hd2 k srcv bs ev u1 hE2 hev hsrc2 hbl (hns _ _ _)
 rintro e v2 ⟨cs2, ok2, rfl, n2, q2, r2, t2⟩
 refine ⟨_, rfl, Zv rfl Zm (Zv rfl (x_extract (vs := #[.agg cs2, .bool ok2]) (i := 0) (v := .agg cs2) ?_ rfl) (Zv rfl (x_extract (vs := #[.agg cs2, .bool ok2]) (i := 1) (v := .bool ok2) ?_ rfl) (Zv rfl (x_alloc hz) ?_)))⟩
 ·simp (disch := first | omega | simp only [Zs]; omega) only [Zo, Ze, Zn, Zq]
 ·simp (disch := first | omega | simp only [Zs]; omega) only [Zo, Ze, Zn, Zq]
 have b2 := Zh v2 (.cells z.cells TI)
 have o2 : Mod none' v2 (v2.alloc (.cells z.cells TI)) := (Mod.refl v2).alloc _
 have l2 : (v2.alloc (.cells z.cells TI)).heap.size = v2.heap.size + 1 := by simp
 refine wpl_skip rfl (x_storeN (cs := cs2) (b := v2.heap.size) (o := 0) (by rw [q2]; kernel_rfl) ?_ ?_ r2 ?_) (Zv rfl Zi (wpList_nil ?_))
 ·simp (disch := first | omega | simp only [Zs]; omega) only [Zo, Ze, Zn, Zq]
 ·simp (disch := first | omega | simp only [Zs]; omega) only [Zo, Ze, Zn, Zq]
 ·intro j hj
  rw [Zc b2, Zz b2, Array.getElem?_eq_getElem (by omega)]
  exact ⟨rfl, rfl⟩
 obtain ⟨C2, k1, k2, k3, k4⟩ := heap_setCells (w := v2.alloc (.cells z.cells TI)) cs2.toList 0 _ b2
 have hC2 : C2 = cs2 := by
  apply Array.ext
  ·omega
  ·intro i h1 h2
   have := k3 i (by simpa using h2) (by omega)
   rw [Nat.zero_add, Array.getElem?_eq_getElem h1] at this
   simpa [h2] using this
 subst hC2
 have p2 := mod_setCells v2.heap.size (v2.alloc (.cells z.cells TI)) 0 C2.toList
 have pp2 : Mod none' v2 ((v2.alloc (.cells z.cells TI)).setCells v2.heap.size 0 C2.toList) := o2.trans' p2 (fun _ _ f => f) (fun j hj e => by have : j = v2.heap.size := e; omega)
 generalize (v2.alloc (.cells z.cells TI)).setCells v2.heap.size 0 C2.toList = u2 at *
 obtain ⟨x2, hx2⟩ : ∃ x, x = v2.heap.size := ⟨_, rfl⟩
 rw [<- hx2] at k1 ⊢
 have kk2 := k1
 clear k1 k2 k3 k4
 refine wp_act (fun a : Act => Act.get a 6 = .pointer (some ⟨x1, 0, none⟩) /\ Act.get a 7 = .bool ok1 /\ Act.get a 8 = .pointer (some ⟨x2, 0, none⟩) /\ Act.get a 9 = .bool ok2 /\ a.tmps.size = 49 /\ a.defers = []) ⟨?_, ?_, ?_, ?_, ?_, ?_⟩ ?_
 ·simp (disch := first | omega | simp only [Zs]; omega) only [Zo, Ze, Zn, Zq, a6]
 ·simp (disch := first | omega | simp only [Zs]; omega) only [Zo, Ze, Zn, Zq, a7]
 ·simp (disch := first | omega | simp only [Zs]; omega) only [Zo, Ze, Zn, Zq]
 ·simp (disch := first | omega | simp only [Zs]; omega) only [Zo, Ze, Zn, Zq]
 ·simp only [Zs]; exact aN
 ·simp only [Zd]; exact ad
 clear a0 a1 a5 a6 a7 aN ad
 rintro a ⟨a6, a7, a8, a9, aN, ad⟩
 have nn2 := n2.trans pp2
 have mall := (m1.trans nn1).trans nn2
 have hb1 := nn2.some kk1 (fun f => f)
 have hok : ok1 = ok2 /\ (ok1 = true -> ∃ t, TreeR u2 (From w1) (from' C1 0) t /\ TreeR u2 (From u1) (from' C2 0) t) := by
  revert t1 t2
  cases ft (IntKind.i16.wrap k) (Zf (IntKind.i16.wrap k)) (V0.1.set 0 (.num (IntKind.i16.wrap k)), V0.2) ⟨bs, bs.isEmpty, false⟩ with
  | ok v' s' =>
   rintro ⟨h1, h2⟩ ⟨h3, h4⟩
   refine ⟨h1.trans h3.symm, fun ht => ⟨_, (h2 ht).mod (pp1.trans nn2) (fun _ _ f => f) (fun _ h => h), (h4 (h3.trans (h1.symm.trans ht))).mod pp2 (fun _ _ f => f) (fun _ h => h)⟩⟩
  | early => intro h1 h2; exact ⟨h1.trans h2.symm, fun ht => by rw [h1] at ht; cases ht⟩
  | stuck => intro h; exact h.elim
 obtain ⟨hok, htree⟩ := hok
 subst hok
 have e14 : ∀ w, Mod none' u2 w -> ∀ a' : Act, Act.get a' 48 = .bool true -> a'.defers = [] -> 48 < a'.tmps.size -> True := fun _ _ _ _ _ _ => trivial
 have fin : ∀ (a' : Act) (w' : World), Mod none' u2 w' -> Act.get a' 4 = .bool true -> a'.defers = [] -> Code.ret.wp Tryd.prog (bodyPost Tryd.prog Tryd.f5 fun e w' => e = .returned (.bool true) /\ Mod none' w w') a' w' := by
  intro a' w' hm h4 hd
  refine wp_ret (bodyPost_ret (results_tmp rfl _ _ _) hd ⟨?_, mall.trans hm⟩)
  exact congrArg Ending.returned h4
 cases ok1 with
 | false =>
  refine wp_seq (region_rlg (l := [_, _, _, _, _, _, _, _, _, _, _, _, _, _]) (tl := [_]) rfl (Mod none') (Mod.refl u2).drew (fun a => .refl a) (fun _ _ _ h h' => h.trans h') [35, 36, 37, 38, 39, 40, 41, 42, 43, 44, 45, 46, 47, 48]
   [fun v _ => v = .bool false, fun v _ => v = .bool false, fun v _ => v = .bool true, fun v _ => v = .bool true, fun v _ => v = .bool false, fun v _ => v = .bool true, fun v _ => v = .bool true, fun _ _ => True, fun _ _ => True, fun _ _ => True, fun _ _ => True, fun _ _ => True, fun v _ => v = .bool true, fun v _ => v = .bool true]
   ?_ rfl (by decide) (by simp [aN]) (by simp) (by kernel_rfl) ⟨?_, ?_, ?_, ?_, ?_, ?_, ?_, ?_, ?_, ?_, ?_, ?_, ?_, ?_, trivial⟩ ?_)
  ·intro g hg v v1 v2 hv hr
   simp only [List.mem_cons, List.not_mem_nil, or_false] at hg
   rcases hg with rfl | rfl | rfl | rfl | rfl | rfl | rfl | rfl | rfl | rfl | rfl | rfl | rfl | rfl <;> exact hv
  ·intro b v hr hs hd
   exact .inl ⟨rfl, Zw (x_moveV ((hs.get 7 (by decide)).trans a7)) ⟨_, rfl, .refl _, rfl⟩⟩
  ·intro b v hr hs hd
   exact .inl ⟨rfl, Zw (x_moveV ((hs.get 9 (by decide)).trans a9)) ⟨_, rfl, .refl _, rfl⟩⟩
  ·intro b v hr hs hd
   have d0 : Act.get b 35 = .bool false := hd ⟨0, .data⟩ (by simp) rfl
   have d1 : Act.get b 36 = .bool false := hd ⟨1, .data⟩ (by simp) rfl
   exact .inl ⟨rfl, Zw (x_eqlB (by kernel_rfl) d0 d1) ⟨_, rfl, .refl _, rfl⟩⟩
  ·intro b v hr hs hd
   have d0 : Act.get b 37 = .bool true := hd ⟨2, .data⟩ (by simp) rfl
   exact .inl ⟨rfl, Zw (x_moveV d0) ⟨_, rfl, .refl _, rfl⟩⟩
  ·intro b v hr hs hd
   have d0 : Act.get b 38 = .bool true := hd ⟨3, .guard⟩ (by simp) rfl
   exact .inl ⟨⟨by decide, true, d0, rfl⟩, Zw (x_moveV ((hs.get 7 (by decide)).trans a7)) ⟨_, rfl, .refl _, rfl⟩⟩
  ·intro b v hr hs hd
   have d0 : Act.get b 38 = .bool true := hd ⟨3, .guard⟩ (by simp) rfl
   have d1 : Act.get b 39 = .bool false := hd ⟨4, .data⟩ (by simp) rfl
   exact .inl ⟨⟨by decide, true, d0, rfl⟩, Zw (x_notV (c := true) d1 rfl) ⟨_, rfl, .refl _, rfl⟩⟩
  ·intro b v hr hs hd
   have d0 : Act.get b 38 = .bool true := hd ⟨3, .guard⟩ (by simp) rfl
   have d1 : Act.get b 40 = .bool true := hd ⟨5, .data⟩ (by simp) rfl
   exact .inl ⟨⟨by decide, true, d0, rfl⟩, Zw (x_moveV d1) ⟨_, rfl, .refl _, rfl⟩⟩
  ·intro b v hr hs hd
   have d0 : Act.get b 41 = .bool true := hd ⟨6, .guard⟩ (by simp) rfl
   exact .inr ⟨⟨by decide, true, d0, rfl⟩, trivial⟩
  ·intro b v hr hs hd
   have d0 : Act.get b 41 = .bool true := hd ⟨6, .guard⟩ (by simp) rfl
   exact .inr ⟨⟨by decide, true, d0, rfl⟩, trivial⟩
  ·intro b v hr hs hd
   have d0 : Act.get b 41 = .bool true := hd ⟨6, .guard⟩ (by simp) rfl
   exact .inr ⟨⟨by decide, true, d0, rfl⟩, trivial⟩
  ·intro b v hr hs hd
   have d0 : Act.get b 41 = .bool true := hd ⟨6, .guard⟩ (by simp) rfl
   exact .inr ⟨⟨by decide, true, d0, rfl⟩, trivial⟩
  ·intro b v hr hs hd
   have d0 : Act.get b 41 = .bool true := hd ⟨6, .guard⟩ (by simp) rfl
   exact .inr ⟨⟨by decide, true, d0, rfl⟩, trivial⟩
  ·intro b v hr hs hd
   have d0 : Act.get b 38 = .bool true := hd ⟨3, .guard⟩ (by simp) rfl
   have d1 : Act.get b 41 = .bool true := hd ⟨6, .data⟩ (by simp) rfl
   exact .inl ⟨⟨by decide, true, d0, rfl⟩, Zw (x_pickT (v := .bool true) d1 rfl) ⟨_, rfl, .refl _, rfl⟩⟩
  ·intro b v hr hs hd
   have d0 : Act.get b 38 = .bool true := hd ⟨3, .data⟩ (by simp) rfl
   have d1 : Act.get b 47 = .bool true := hd ⟨12, .data⟩ (by simp) rfl
   exact .inl ⟨rfl, Zw (x_pickT d0 d1) ⟨_, rfl, .refl _, rfl⟩⟩
  ·intro b v hr hs hh
   have d0 : Act.get b 48 = .bool true := hh 13 (by decide)
   refine Zv rfl Zi (wpList_nil (fin _ v hr ?_ ?_))
   ·rw [Zq (by rw [hs.size]; omega)]; exact d0
   ·exact (Zd _ _ _).trans (hs.defers.trans ad)
 | true =>
  obtain ⟨t, htA, htB⟩ := htree rfl
  have hl1 := lt_of_block hb1
  have hl2 := lt_of_block kk2
  refine wp_seq (region_rlg (l := [_, _, _, _, _, _, _, _, _, _, _, _, _, _]) (tl := [_]) rfl (Mod none') (Mod.refl u2).drew (fun a => .refl a) (fun _ _ _ h h' => h.trans h') [35, 36, 37, 38, 39, 40, 41, 42, 43, 44, 45, 46, 47, 48]
   [fun v _ => v = .bool true, fun v _ => v = .bool true, fun v _ => v = .bool true, fun v _ => v = .bool true, fun v _ => v = .bool true, fun v _ => v = .bool false, fun v _ => v = .bool false, fun v _ => v = .agg C1, fun v w' => TreeV w' (fun _ => True) v t, fun v _ => v = .agg C2, fun v w' => TreeV w' (fun _ => True) v t, fun v _ => v = .bool true, fun v _ => v = .bool true, fun v _ => v = .bool true]
   ?_ rfl (by decide) (by simp [aN]) (by simp) (by kernel_rfl) ⟨?_, ?_, ?_, ?_, ?_, ?_, ?_, ?_, ?_, ?_, ?_, ?_, ?_, ?_, trivial⟩ ?_)
  ·intro g hg v v1 v2 hv hr
   simp only [List.mem_cons, List.not_mem_nil, or_false] at hg
   rcases hg with rfl | rfl | rfl | rfl | rfl | rfl | rfl | rfl | rfl | rfl | rfl | rfl | rfl | rfl <;> first | exact hv | exact TreeV.mod hv hr (fun _ _ f => f) (fun _ h => h)
  ·intro b v hr hs hd
   exact .inl ⟨rfl, Zw (x_moveV ((hs.get 7 (by decide)).trans a7)) ⟨_, rfl, .refl _, rfl⟩⟩
  ·intro b v hr hs hd
   exact .inl ⟨rfl, Zw (x_moveV ((hs.get 9 (by decide)).trans a9)) ⟨_, rfl, .refl _, rfl⟩⟩
  ·intro b v hr hs hd
   have d0 : Act.get b 35 = .bool true := hd ⟨0, .data⟩ (by simp) rfl
   have d1 : Act.get b 36 = .bool true := hd ⟨1, .data⟩ (by simp) rfl
   exact .inl ⟨rfl, Zw (x_eqlB (by kernel_rfl) d0 d1) ⟨_, rfl, .refl _, rfl⟩⟩
  ·intro b v hr hs hd
   have d0 : Act.get b 37 = .bool true := hd ⟨2, .data⟩ (by simp) rfl
   exact .inl ⟨rfl, Zw (x_moveV d0) ⟨_, rfl, .refl _, rfl⟩⟩
  ·intro b v hr hs hd
   have d0 : Act.get b 38 = .bool true := hd ⟨3, .guard⟩ (by simp) rfl
   exact .inl ⟨⟨by decide, true, d0, rfl⟩, Zw (x_moveV ((hs.get 7 (by decide)).trans a7)) ⟨_, rfl, .refl _, rfl⟩⟩
  ·intro b v hr hs hd
   have d0 : Act.get b 38 = .bool true := hd ⟨3, .guard⟩ (by simp) rfl
   have d1 : Act.get b 39 = .bool true := hd ⟨4, .data⟩ (by simp) rfl
   exact .inl ⟨⟨by decide, true, d0, rfl⟩, Zw (x_notV (c := false) d1 rfl) ⟨_, rfl, .refl _, rfl⟩⟩
  ·intro b v hr hs hd
   have d0 : Act.get b 38 = .bool true := hd ⟨3, .guard⟩ (by simp) rfl
   have d1 : Act.get b 40 = .bool false := hd ⟨5, .data⟩ (by simp) rfl
   exact .inl ⟨⟨by decide, true, d0, rfl⟩, Zw (x_moveV d1) ⟨_, rfl, .refl _, rfl⟩⟩
  ·intro b v hr hs hd
   have d0 : Act.get b 41 = .bool false := hd ⟨6, .guard⟩ (by simp) rfl
   refine .inl ⟨⟨by decide, false, d0, rfl⟩, Zw (x_loadN (cs := C1.toList) (by rw [Array.length_toList, q1]; kernel_rfl) ((hs.get 6 (by decide)).trans a6) (fun j u hu => by rw [Zc (hr.some hb1 (fun f => f)), Nat.zero_add]; simpa using hu)) ⟨_, rfl, .refl _, by simp⟩⟩
  ·intro b v hr hs hd
   have d0 : Act.get b 41 = .bool false := hd ⟨6, .guard⟩ (by simp) rfl
   have d1 : Act.get b 42 = .agg C1 := hd ⟨7, .data⟩ (by simp) rfl
   refine .inl ⟨⟨by decide, false, d0, rfl⟩, owp_call (Zy (by kernel_rfl) rfl) (R := fun e w' => ∃ x, e = .returned x /\ Mod none' v w' /\ TreeV w' (fun k => From w1 k \/ v.heap.size <= k) x t) ?_ ?_⟩
   ·rw [show ∀ a : Act, (#[Operand.tmp 42] : Array Operand).map a.eval = #[Act.get a 42] from fun a => by simp [Ze], d1]
    exact got_spec _ t (Nat.lt_succ_self _) C1 v _ q1 (htA.mod hr (fun _ _ f => f) (fun _ h => h))
   ·rintro e w' ⟨x, rfl, hm, hx⟩
    exact ⟨x, rfl, x, rfl, hm, hx.mod (Mod.refl (S := none') w') (fun _ _ f => f) (fun _ _ => trivial)⟩
  ·intro b v hr hs hd
   have d0 : Act.get b 41 = .bool false := hd ⟨6, .guard⟩ (by simp) rfl
   refine .inl ⟨⟨by decide, false, d0, rfl⟩, Zw (x_loadN (cs := C2.toList) (by rw [Array.length_toList, q2]; kernel_rfl) ((hs.get 8 (by decide)).trans a8) (fun j u hu => by rw [Zc (hr.some kk2 (fun f => f)), Nat.zero_add]; simpa using hu)) ⟨_, rfl, .refl _, by simp⟩⟩
  ·intro b v hr hs hd
   have d0 : Act.get b 41 = .bool false := hd ⟨6, .guard⟩ (by simp) rfl
   have d1 : Act.get b 44 = .agg C2 := hd ⟨9, .data⟩ (by simp) rfl
   refine .inl ⟨⟨by decide, false, d0, rfl⟩, owp_call (Zy (by kernel_rfl) rfl) (R := fun e w' => ∃ x, e = .returned x /\ Mod none' v w' /\ TreeV w' (fun k => From u1 k \/ v.heap.size <= k) x t) ?_ ?_⟩
   ·rw [show ∀ a : Act, (#[Operand.tmp 44] : Array Operand).map a.eval = #[Act.get a 44] from fun a => by simp [Ze], d1]
    exact got_spec _ t (Nat.lt_succ_self _) C2 v _ q2 (htB.mod hr (fun _ _ f => f) (fun _ h => h))
   ·rintro e w' ⟨x, rfl, hm, hx⟩
    exact ⟨x, rfl, x, rfl, hm, hx.mod (Mod.refl (S := none') w') (fun _ _ f => f) (fun _ _ => trivial)⟩
  ·intro b v hr hs hd
   have d0 : Act.get b 41 = .bool false := hd ⟨6, .guard⟩ (by simp) rfl
   obtain ⟨ca, e1, e2, e3, e4⟩ : TreeV v (fun _ => True) (Act.get b 43) t := hd ⟨8, .data⟩ (by simp) rfl
   obtain ⟨cb, f1, f2, f3, f4⟩ : TreeV v (fun _ => True) (Act.get b 45) t := hd ⟨10, .data⟩ (by simp) rfl
   refine .inl ⟨⟨by decide, false, d0, rfl⟩, owp_call (Zy (by kernel_rfl) rfl) (R := fun e w' => e = .returned (.bool true) /\ Mod none' v w') ?_ ?_⟩
   ·rw [show ∀ a : Act, (#[Operand.tmp 43, Operand.tmp 45] : Array Operand).map a.eval = #[Act.get a 43, Act.get a 45] from fun a => by simp [Ze], e1, f1]
    exact sametree_spec _ t (Nat.lt_succ_self _) ca cb v _ _ e2 f2 e4 f4
   ·rintro e w' ⟨rfl, hm⟩
    exact ⟨_, rfl, _, rfl, hm, rfl⟩
  ·intro b v hr hs hd
   have d0 : Act.get b 38 = .bool true := hd ⟨3, .guard⟩ (by simp) rfl
   have d1 : Act.get b 41 = .bool false := hd ⟨6, .data⟩ (by simp) rfl
   have d2 : Act.get b 46 = .bool true := hd ⟨11, .data⟩ (by simp) rfl
   exact .inl ⟨⟨by decide, true, d0, rfl⟩, Zw (x_pickF d1 d2) ⟨_, rfl, .refl _, rfl⟩⟩
  ·intro b v hr hs hd
   have d0 : Act.get b 38 = .bool true := hd ⟨3, .data⟩ (by simp) rfl
   have d1 : Act.get b 47 = .bool true := hd ⟨12, .data⟩ (by simp) rfl
   exact .inl ⟨rfl, Zw (x_pickT d0 d1) ⟨_, rfl, .refl _, rfl⟩⟩
  ·intro b v hr hs hh
   have d0 : Act.get b 48 = .bool true := hh 13 (by decide)
   refine Zv rfl Zi (wpList_nil (fin _ v hr ?_ ?_))
   ·rw [Zq (by rw [hs.size]; omega)]; exact d0
   ·exact (Zd _ _ _).trans (hs.defers.trans ad)
end Go.Proofs.YtcldbjehliladaaDoor
set_option linter.unusedSimpArgs false
set_option linter.unusedVariables false
namespace Go.Proofs.YtcldbjehliladaaDoor.CFetchRequest
open Go Go.ChangeShapes Go.WideShapes Go.ChangeAt Go.RowKit Go.Proofs.YtcldbjehliladaaDoor
theorem goesBy_of {c : OpenClaim} {P : Program} {f : FuncId} (hs : c.start = .entering) (hn : P.funcNamed c.func = some f) (hg : P.goes f = false) : false = c.goesBy P := by
 simp [OpenClaim.goesBy, Program.goesAt, Program.goesFrom, hs, hn, hg]
section
variable {H : Type} {enc : TypeId × Value -> H} {P : Program}
theorem post_of_below' {f : Func} {s : ChangeSpec} {apart fresh handsOn again : Bool} {W W' : World} {args : Array Value} {v : Value} {ds gs : List (DataW H)} {before pa pv : List MemPlace}
  (hW : DataW.Whole enc P f.params.toList s.vars apart W args.toList ds gs before)
  (hres : ∀ (b : Nat) (sp : Nat -> Bool) (hd : Bool), DataW.TrodAll enc P W' b sp hd f.resultTypes.toList (v.resultList f.resultTypes.size) (s.fn H (ds ++ gs)).results [])
  (hargs : ∀ sp : Nat -> Bool, (∀ p ∈ before, sp p.block = true) -> DataW.TrodAll enc P W' 0 sp true f.params.toList args.toList (s.fn H (ds ++ gs)).args pa)
  (hvars : ∀ sp : Nat -> Bool, (∀ p ∈ before, sp p.block = true) -> DataW.TrodVars enc P W' sp s.vars (s.fn H (ds ++ gs)).vars pv)
  (hps : before = pa ++ pv) (hb : Below W.heap.size W W')
  (hok : ∀ (j : Nat) (t : TypeId) (r : Value), f.resultTypes[j]? = some t -> (v.resultList f.resultTypes.size)[j]? = some r -> Value.okWide P W' .any 0 t r) :
  s.post enc P f apart fresh handsOn again W args v W' := by
 have hlt : ∀ p ∈ before, p.block < W.heap.size := fun p hp => hW.lt p hp
 have hold : ∀ p ∈ before, (fun b => decide (b < W.heap.size)) p.block = true := fun p hp => by simpa using hlt p hp
 refine ⟨ds, gs, before, [], pa, pv, hW, hres _ _ _, hargs _ hold, hvars _ hold, World.keptBut_mono (fun p hp => ⟨hp, ?_⟩) (hb.frame (· ∈ before)), fun _ => ?_⟩
 ·rw [hps, List.mem_append] at hp
  exact Or.inr hp
 ·obtain ⟨_, _, _, _, _, hz, hn⟩ := hW
  refine ⟨hok, _, _, ([] ++ pa) ++ pv, ⟨[] ++ pa, pv, trodAll_append (hargs _ (fun _ _ => rfl)) (hres _ _ _), hvars _ (fun _ _ => rfl), rfl, ?_, ?_⟩, ?_⟩
  ·intro b off hp
   have hin : MemPlace.cell b off ∈ before := by rw [hps]; simpa using hp
   rw [hb.frozen (hlt _ hin)]
   exact hz b off hin
  ·intro ha
   have := hn ha
   rw [hps] at this
   simpa using this
  ·intro p hp _
   rw [hps]
   simpa using hp
end
theorem own : ownKnob Tryd.prog.godebug = none := by kernel_rfl
theorem gErrName : Tryd.prog.globalNamed "pub-mailsack/pub/kmsg/inner/kbin.ErrNotEnoughData" = some gErr := by kernel_rfl
theorem gErrType : (Tryd.prog.globals[gErr]?).map (·.type) = some 50 := by kernel_rfl
theorem star : "*" ++ "errors.errorString" = "*errors.errorString" := by decide
theorem rowOf (u : TypeId) (h : Tryd.prog.typeName? 3 u = some "*errors.errorString") : u = 185 :=
 typeName_ptr_named (nm := "errors.errorString") (by rw [star]; kernel_rfl) (by kernel_rfl) (by decide) u (by rw [star]; exact h)
theorem cellsE : Tryd.prog.cellsOf 204 = 1 := by kernel_rfl
theorem cellsS : Tryd.prog.cellsOf 9 = 1 := by kernel_rfl
theorem cellsU : Tryd.prog.cellsOf 5 = 1 := by kernel_rfl
/-- what the row's list gives -/
theorem errOf {W : World} (h : laidMetH Tryd.prog Rows.fnUnsafeFetchRequestRow.laid W) : ∃ ev, ErrIs W ev /\ ∃ tx vx, ev = .iface tx vx := by
 obtain ⟨a0, s0, hv0, -, -, -⟩ := laid_sentinel (show laidMet Tryd.prog Rows.fnUnsafeFetchRequestRow.laid W from h) gErrName gErrType Tryd.underlying50 rowOf Tryd.underlying185 Tryd.underlying204 rfl rfl Tryd.underlying9 cellsE cellsS
 exact ⟨_, ⟨by have h0 := World.var?_cell gErrName hv0 0; simpa using h0, _, _, rfl⟩, _, _, rfl⟩
set_option maxRecDepth 100000 in
theorem contract (H : Type) (enc : TypeId × Value -> H) (W : World) (base : Nat) (args : Array Value) (ds gs : List (DataW H)) (before : List MemPlace)
  (hval : ∀ (j : Nat) t v, Tryd.f5.params[j]? = some t -> args[j]? = some v -> Value.okWide Tryd.prog W .any base t v)
  (hW : DataW.Whole enc Tryd.prog Tryd.f5.params.toList Rows.fnUnsafeFetchRequestSpec.vars false W args.toList ds gs before) (hL : laidMetH Tryd.prog Rows.fnUnsafeFetchRequestRow.laid W) :
  Calls Tryd.prog 5 args W fun e W' => ∃ v, e = .returned v /\ Rows.fnUnsafeFetchRequestSpec.post enc Tryd.prog Tryd.f5 false true false false W args v W' := by
 have hW' := hW
 obtain ⟨p, q, hA0, hV, rfl, hfz, hnd⟩ := hW
 have hA : DataW.TrodAll enc Tryd.prog W 0 (fun _ => true) true Tryd.f5.params.toList args.toList ds p := hA0
 rw [Tryd.params5] at hA hval
 obtain ⟨v0, vs0, d0, ds0, p0, q0, hargs, rfl, rfl, h0, r0⟩ := trodAll_cons hA
 obtain ⟨v1, vs1, d1, ds1, p1, q1, rfl, rfl, rfl, h1, r1⟩ := trodAll_cons r0
 obtain ⟨rfl, rfl, rfl⟩ := trodAll_nil r1
 obtain rfl : args = #[v0, v1] := by cases args; simp_all
 obtain ⟨rfl, rfl⟩ := trodVars_none hV
 obtain ⟨n, rfl, rfl, rfl, hwn⟩ := open_int Tryd.underlying5 (hval 0 5 v0 rfl rfl) h0
 clear hA0
 obtain ⟨ev, hE, hev⟩ := errOf hL
 obtain ⟨a1, len, cap, rfl⟩ := okWide_slice Tryd.underlying22 (hval 1 22 v1 rfl rfl)
 obtain ⟨fuel, hf⟩ := h1
 have finish : ∀ bs, Srcs W (.slice a1 len cap) bs -> (∀ (W' : World) (sp : Nat -> Bool), Below W.heap.size W W' -> (∀ x ∈ p1, sp x.block = true) -> DataW.Trod enc Tryd.prog W' 0 sp true 22 (.slice a1 len cap) d1 p1) ->
   Calls Tryd.prog 5 #[.int .u8 n, .slice a1 len cap] W fun e W' => ∃ v, e = .returned v /\ Rows.fnUnsafeFetchRequestSpec.post enc Tryd.prog Tryd.f5 false true false false W #[.int .u8 n, .slice a1 len cap] v W' := by
  intro bs hsrc hagain
  refine (law_FetchRequest hE hev hsrc).mono fun e W' ⟨he, hm⟩ => ?_
  subst he
  simp only [List.append_nil, List.nil_append] at hW'
  refine ⟨_, rfl, post_of_below' (pa := p1) (pv := []) hW' (fun _ _ _ => trodAll_cons_mk (shut_bool Tryd.underlying4 _) trodAll_mk0) (fun sp hsp => ?_) (fun _ _ => rfl) (by simp) hm.below
   (ok_one (by kernel_rfl) rfl (okWide_bool_mk Tryd.underlying4 _))⟩
  rw [Tryd.params5]
  have := trodAll_cons_mk (shut_int (enc := enc) (P := Tryd.prog) (w := W') (base := 0) (spare := sp) (held := true) Tryd.underlying5 hwn) (trodAll_cons_mk (hagain W' sp hm.below (fun x hx => hsp x (by simpa using hx))) trodAll_mk0)
  show DataW.TrodAll enc Tryd.prog W' 0 sp true [5, 22] [Value.int IntKind.u8 n, Value.slice a1 len cap] [DataW.lit (Lit.int IntKind.u8 n), d1] p1
  simpa using this
 rcases open_ints Tryd.underlying22 Tryd.underlying5 cellsU hf with ⟨hcs, hx⟩ | ⟨a, len', cap', zs, hcs, _, hl, hmx, hz, hx, hcell, hwz⟩
 ·simp [Value.cells] at hcs
  obtain ⟨rfl, rfl, rfl⟩ := hcs
  simp only [Prod.mk.injEq] at hx
  obtain ⟨rfl, rfl⟩ := hx
  refine finish [] (.inl ⟨rfl, _, _, rfl⟩) fun W' sp _ _ => ⟨1, by simp [DataW.trod, Value.cells, Tryd.underlying22]⟩
 ·simp [Value.cells] at hcs
  obtain ⟨rfl, rfl, rfl⟩ := hcs
  simp only [Prod.mk.injEq] at hx
  obtain ⟨rfl, rfl⟩ := hx
  simp only [if_true] at hz
  obtain ⟨ab, ao, spot⟩ := a
  by_cases hc0 : cap = 0
  ·subst hc0
   obtain rfl : len = 0 := by omega
   have hz0 : zs = [] := List.eq_nil_of_length_eq_zero (by simpa using hz)
   subst hz0
   exact finish [] (.inl ⟨rfl, _, _, rfl⟩) fun W' sp _ _ => ⟨2, shut_ints (zs := []) 0 Tryd.underlying22 Tryd.underlying5 cellsU (Nat.zero_le _) hl hmx (by simp) (fun i hi => by simp at hi) (fun n hn => by simp at hn)⟩
  have hspot : spot = none := by simpa [Addr.add] using World.cell?_spot (hcell 0 (by omega))
  subst hspot
  have hblk : ∃ C t fr, W.heap[ab]? = some (.cells C t fr) := by
   have h0 := hcell 0 (by omega)
   rw [Addr.add_lit] at h0
   cases hh : W.heap[ab]? with
   | none => simp [World.cell?, hh] at h0
   | some o =>
    cases o with
    | cells C t fr => exact ⟨C, t, fr, rfl⟩
    | _ => simp [World.cell?, hh] at h0
  obtain ⟨C, t, fr, hC⟩ := hblk
  refine finish ((zs.take len).map fun n => UInt8.ofNat n.toNat) (.inr ⟨ab, ao, cap, C, t, fr, ?_, hC, ?_⟩) fun W' sp hbel hsp => ?_
  ·have hlen : ((zs.take len).map fun n => UInt8.ofNat n.toNat).length = len := by simp; omega
   rw [hlen]
  ·intro i hi
   have hil : i < len := by simp at hi; omega
   have hci := hcell i (by omega)
   rw [Addr.add_lit, Zc hC] at hci
   rw [hci]
   have hb := range_u8 hwz i
   simp only [List.getElem_map, List.getElem_take]
   have e : zs.getD i 0 = zs[i]'(by omega) := by simp [List.getD, List.getElem?_eq_getElem (show i < zs.length by omega)]
   rw [List.getD_eq_getElem?_getD] at e
   rw [e] at hb
   rw [List.getD_eq_getElem?_getD, e]
   congr 2
   simp only [UInt8.toNat_ofNat']
   omega
  ·refine ⟨2, ?_⟩
   have hlt : ab < W.heap.size := lt_of_block hC
   have hspb : sp ab = true := hsp (.cell ab ao) (by simp only [MemPlace.row, List.mem_map, List.mem_range]; exact ⟨0, by omega, by simp⟩)
   exact shut_ints (a := ⟨ab, ao, none⟩) 0 Tryd.underlying22 Tryd.underlying5 cellsU (Nat.zero_le _) hl hmx (by rw [hspb]; simpa using hz) (fun i hi => by
    rw [<- hcell i hi, Addr.add_lit]
    exact World.cell?_of_block (hbel.block ab hlt)) hwz
abbrev errText : ByteArray := { data := #[114, 101, 115, 112, 111, 110, 115, 101, 32, 100, 105, 100, 32, 110, 111, 116, 32, 99, 111, 110, 116, 97, 105, 110, 32, 101, 110, 111, 117, 103, 104, 32, 100, 97, 116, 97, 32, 116, 111, 32, 98, 101, 32, 118, 97, 108, 105, 100] }
noncomputable def lowB : Nat := (World.holding Tryd.prog default ⟨#[], #[], []⟩).heap.size
noncomputable def laidWorld (os : Os) : World :=
 let w0 := World.holding Tryd.prog os ⟨#[.cells #[.string errText] 204], #[], []⟩
 { w0 with heap := w0.heap.modify gErr fun
   | .cells _ t frozen => .cells #[.iface 185 (.pointer (some ⟨lowB, 0, none⟩))] t frozen
   | o => o }
abbrev wArgs : Array Value := #[.int .u8 0, .slice none 0 0]
theorem laid_met (os : Os) : laidMet Tryd.prog Rows.fnUnsafeFetchRequestRow.laid ((laidWorld os).forCall (fun _ _ => 0) ⟨#[], wArgs, []⟩).memory :=
 laidMet_of_run' 8 (by kernel_rfl) (by kernel_rfl)
theorem reads (os : Os) {H : Type} (enc : TypeId × Value -> H) : ∃ places, DataW.whole enc Tryd.prog ((laidWorld os).forCall (fun _ _ => 0) ⟨#[], wArgs, []⟩).memory Tryd.f5.params.toList Rows.fnUnsafeFetchRequestSpec.vars false wArgs.toList 8 = some ([.lit (.int .u8 0), .nil], [], places) :=
 ⟨[], by kernel_rfl⟩
set_option maxRecDepth 100000 in
theorem lifted (os : Os) (started : os.Started) (H : Type) (enc : TypeId × Value -> H) (F : Stop.Interp) :
  ReturnsInHanded {} Tryd.checked os 5 .any ((OpenSpec.ofChange Rows.fnUnsafeFetchRequestSpec).preRow enc Tryd.prog Tryd.f5 Rows.fnUnsafeFetchRequestRow.domain false Rows.fnUnsafeFetchRequestRow.laid) (((OpenSpec.ofChange Rows.fnUnsafeFetchRequestSpec).at F).post enc Tryd.prog Tryd.f5 false true false false) := by
 obtain ⟨places, hx⟩ := reads os enc
 refine returnsInHanded_of_row (C := Tryd.checked) (s := OpenSpec.ofChange Rows.fnUnsafeFetchRequestSpec) own started (by kernel_rfl) Tryd.func5
  (witness_row_at (enc := enc) (C := Tryd.checked) false (laidWorld os) wArgs rfl (by kernel_rfl) (by kernel_rfl) (by kernel_rfl)
   (OpenSpec.preRow_of_cond 8 hx (by kernel_rfl) (fun k hk => by cases hk) (by kernel_rfl) (laid_met os))) ?_
 intro W base args ds gs before hval hW _ _ _ hL _ _
 exact contract H enc W base args ds gs before hval hW hL
set_option maxRecDepth 100000 in
theorem clo : Program.closure Tryd.prog 5 = [5, 16, 32, 48, 33, 14, 17, 34, 35, 49, 69, 104, 80, 74, 71, 105, 75, 76, 60, 81, 82, 73, 97, 56, 55, 96, 83, 57, 77, 84, 58, 98, 112, 72, 85, 86, 87, 88, 89, 90, 91, 36, 50, 51, 92, 45, 79, 78, 106, 107, 108, 109, 122, 123, 110, 124, 125, 132, 126, 133, 134, 127, 135, 136, 137, 128, 129, 130, 131, 47, 52, 93, 111, 94, 53, 95, 54, 18, 37, 11, 10, 25] := by kernel_rfl
set_option maxRecDepth 100000 in
theorem eP : Program.inPlace Tryd.prog 5 = ["internal/reflectlite.ValueOf", "internal/reflectlite.Swapper", "(internal/reflectlite.Value).Len"] := by unfold Program.inPlace; rw [clo]; kernel_rfl
set_option maxRecDepth 100000 in
theorem eU : Program.unfollowed Tryd.prog 5 = true := by unfold Program.unfollowed; rw [clo]; kernel_rfl
theorem eR : Program.recurses Tryd.prog 5 = true := by unfold Program.recurses; rw [eU]; rfl
set_option maxRecDepth 100000 in
theorem eV : Program.varsNamed Tryd.prog 5 = ["encoding/binary.BigEndian", "pub-mailsack/pub/kmsg/inner/kbin.ErrNotEnoughData"] := by unfold Program.varsNamed; rw [clo]; kernel_rfl
set_option maxRecDepth 100000 in
theorem eG : Program.goes Tryd.prog 5 = false := by unfold Program.goes; rw [clo, eU]; kernel_rfl
set_option maxRecDepth 100000 in
theorem facts : joinedFacts Tryd.prog 5 Tryd.f5 (OpenSpec.ofChange Rows.fnUnsafeFetchRequestSpec).bare Rows.fnUnsafeFetchRequestRow = true := by
 unfold joinedFacts
 rw [eP, eU, eR, eV]
 kernel_rfl
theorem said : Rows.FnUnsafeFetchRequestSaid :=
 OpenClaim.holds_of_cond 5 Tryd.f5 rfl rfl rfl rfl rfl rfl rfl ⟨rfl, rfl, rfl, rfl, rfl⟩ rfl rfl rfl rfl rfl (by kernel_rfl) Tryd.func5 facts
  (of_decide_eq_true (by kernel_rfl)) (by unfold Func.isWrapper; first | (rw [if_pos (by decide +kernel)]; kernel_rfl) | (rw [if_neg (by decide +kernel)]; exact ⟨rfl, rfl⟩))
  (fun os started H enc _ F => by rw [OpenClaim.pre_eq_preRow]; exact lifted os started H enc F)
theorem plain (f : FuncId) (fn : Func) (hf : Tryd.pinned.checked.prog.funcNamed "pub-mailsack/laws.FnUnsafeFetchRequest" = some f) (hfn : Tryd.pinned.checked.prog.funcs[f]? = some fn) :
  false = Tryd.pinned.checked.prog.looks [] /\ ∀ (j : Nat) t, fn.params[j]? = some t -> Tryd.pinned.checked.prog.wantsStandIn t = false := by
 obtain rfl : f = 5 := Option.some.inj ((show Tryd.prog.funcNamed "pub-mailsack/laws.FnUnsafeFetchRequest" = some 5 by kernel_rfl).symm.trans hf) |>.symm
 obtain rfl : fn = Tryd.f5 := (Option.some.inj (Tryd.func5.symm.trans hfn)).symm
 refine ⟨by kernel_rfl, fun j t ht => ?_⟩
 rw [Tryd.params5] at ht
 have : t = 5 \/ t = 22 := by simpa using Array.mem_of_getElem? ht
 rcases this with rfl | rfl
 ·exact (show Tryd.prog.wantsStandIn 5 = false by kernel_rfl)
 ·exact (show Tryd.prog.wantsStandIn 22 = false by kernel_rfl)
theorem card : Rows.FnUnsafeFetchRequestCardSaid :=
 Claim7.holds_tied_plain_at .later [] _ _ _ _ said (fun _ h => by cases h) (by kernel_rfl) (fun _ h => by cases h) fnUnsafeFetchRequest_row_tie rfl ⟨rfl, rfl⟩ (by kernel_rfl) rfl plain (goesBy_of (P := Tryd.prog) (f := 5) rfl (by kernel_rfl) eG)
end Go.Proofs.YtcldbjehliladaaDoor.CFetchRequest
