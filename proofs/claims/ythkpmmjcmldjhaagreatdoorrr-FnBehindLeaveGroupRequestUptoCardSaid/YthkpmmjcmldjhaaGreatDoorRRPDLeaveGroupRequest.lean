/-
  LeaveGroupRequest: AppendTo.
  LeaveGroupRequest: AppendTo.
-/
import Derived.Test.YthkpmmjcmldjhaaGreatDoorRRPRLeaveGroupRequest
import Derived.Test.YthkpmmjcmldjhaaGreatDoorRRPYd
import Derived.Test.YthkpmmjcmldjhaaGreatDoorRRPLaw
set_option linter.unusedSimpArgs false
set_option linter.unusedVariables false
namespace Go.Proofs.YthkpmmjcmldjhaaGreatDoorRR
open Go Go.RowKit
abbrev aLeaveGroupRequest : St := ⟨0, .cons 0 (.int .i16) (.cons 1 .str (.cons 2 .str (.cons 3 (.list (.struct (.cons 0 .str (.cons 1 .pstr (.cons 2 .pstr .nil))) (some 3) 4) 4) .nil))), some 4, 5⟩
abbrev aLeaveGroupRequest_1 : St := ⟨11, .cons 0 .str (.cons 1 .pstr (.cons 2 .pstr .nil)), some 3, 4⟩
set_option maxRecDepth 100000 in
theorem app_LeaveGroupRequest : AppToC Tryz.prog 22 aLeaveGroupRequest (fun ver => decide ((4 : Int) <= ver)) Zk Zg := by
 refine app_top (m := 15) (N := 139) Tryz.func22 rfl rfl (by kernel_rfl) (by kernel_rfl) rfl rfl (by decide) (by decide) rfl ?_
 refine emitw_fields (σ := aLeaveGroupRequest) (i := 1) rfl ?_ ?_ (by rfl)
 ·refine emit_had (σ := aLeaveGroupRequest) (i := 1) (E := fun _ fl x => leafE 8 (-1) fl x) ?_ (by intro v l h; simp [Zk, Zf] at h; exact hadW_of (by decide) (by omega) (by omega)) (fun v l t _ => by simp [encW])
  refine emit_leaf (σ := aLeaveGroupRequest) (i := 1) (o := 1) (ty := .str) ?_ (by rfl) (by kernel_rfl) (by kernel_rfl) rfl rfl
  refine emit_cond (rs := [_]) (tstw_flex (by rfl)) ?_ ?_ preV_stable (by rfl)
  ·refine emit_call (av_cstr (null := (-1)) (by decide)) (by kernel_rfl) (by rfl) (fun v l t h => by first | rfl | (obtain ⟨_, h⟩ := h; have h : l = true := h; subst h; rfl) | (obtain ⟨_, h⟩ := h; have h : l = false := h; subst h; rfl))
  ·refine emit_call (av_str (null := (-1)) (by decide)) (by kernel_rfl) (by rfl) (fun v l t h => by first | rfl | (obtain ⟨_, h⟩ := h; have h : l = true := h; subst h; rfl) | (obtain ⟨_, h⟩ := h; have h : l = false := h; subst h; rfl))
 ·refine emitw_fields (σ := aLeaveGroupRequest) (i := 2) rfl ?_ ?_ (by rfl)
  ·refine emit_cond (rs := [0]) (tstw_and (by rfl)) ?_ ?_ (preH_stable (σ := aLeaveGroupRequest) (i := 2)) (by rfl)
   ·refine emit_had (σ := aLeaveGroupRequest) (i := 2) (E := fun _ fl x => leafE 8 (-1) fl x) ?_ (by intro v l h; simp [Zk, Zf] at h; exact hadW_of (by decide) (by omega) (by omega)) (fun v l t _ => by simp [encW])
    refine emit_leaf (σ := aLeaveGroupRequest) (i := 2) (o := 2) (ty := .str) ?_ (by rfl) (by kernel_rfl) (by kernel_rfl) rfl rfl
    refine emit_cond (rs := [_]) (tstw_flex (by rfl)) ?_ ?_ preV_stable (by rfl)
    ·refine emit_call (av_cstr (null := (-1)) (by decide)) (by kernel_rfl) (by rfl) (fun v l t h => by first | rfl | (obtain ⟨_, h⟩ := h; have h : l = true := h; subst h; rfl) | (obtain ⟨_, h⟩ := h; have h : l = false := h; subst h; rfl))
    ·refine emit_call (av_str (null := (-1)) (by decide)) (by kernel_rfl) (by rfl) (fun v l t h => by first | rfl | (obtain ⟨_, h⟩ := h; have h : l = true := h; subst h; rfl) | (obtain ⟨_, h⟩ := h; have h : l = false := h; subst h; rfl))
   ·exact emit_lacks (by intro v l h; simp [Zk, Zf] at h; exact hadW_not (by omega))
  ·refine emitw_fields (σ := aLeaveGroupRequest) (i := 3) rfl ?_ ?_ (by rfl)
   ·refine emit_cond (rs := [0]) (tstw_geq (by rfl)) ?_ ?_ (preH_stable (σ := aLeaveGroupRequest) (i := 3)) (by rfl)
    ·refine emit_had (σ := aLeaveGroupRequest) (i := 3) (E := listE false (structW ([.mk 8 0 (-1) (-1) (-1) 0 0 [], .mk 8 0 (-1) 0 (-1) 0 0 [], .mk 8 5 (-1) 5 (-1) 0 0 []]))) ?_ (by intro v l h; simp [Zk, Zf] at h; exact hadW_of (by decide) (by omega) (by omega)) (fun v l t _ => by simp [encW, listE] <;> rfl)
     refine emit_leaf (σ := aLeaveGroupRequest) (i := 3) (o := 3) (ty := .list (.struct (.cons 0 .str (.cons 1 .pstr (.cons 2 .pstr .nil))) (some 3) 4) 4) ?_ (by rfl) (by kernel_rfl) (by kernel_rfl) rfl rfl
     refine emit_list ?_ ?_ (by rfl)
     ·refine emit_cond (rs := [_]) (tstw_flex (by rfl)) ?_ ?_ preC_stable (by rfl)
      ·refine emit_cnt ct_calen (by kernel_rfl) (by kernel_rfl) rfl (by rfl) (fun v l h => h.2)
      ·refine emit_cnt ct_alen (by kernel_rfl) (by kernel_rfl) rfl (by rfl) (fun v l h => h.2)
     ·refine emit_loop ?_ (by kernel_rfl) rfl (by rfl)
      refine emit_els (σe := aLeaveGroupRequest_1) ?_ (by kernel_rfl) rfl (by rfl) (by rfl)
      refine emit_fields (σ := aLeaveGroupRequest_1) (i := 0) rfl ?_ ?_ (by rfl)
      ·refine emit_had (σ := aLeaveGroupRequest_1) (i := 0) (E := fun _ fl x => leafE 8 (-1) fl x) ?_ (by intro v l h; simp [Zk, Zf] at h; exact hadW_of (by decide) (by omega) (by omega)) (fun v l t _ => by simp [encW])
       refine emit_leaf (σ := aLeaveGroupRequest_1) (i := 0) (o := 0) (ty := .str) ?_ (by rfl) (by kernel_rfl) (by kernel_rfl) rfl rfl
       refine emit_cond (rs := [_]) (tstw_flex (by rfl)) ?_ ?_ preV_stable (by rfl)
       ·refine emit_call (av_cstr (null := (-1)) (by decide)) (by kernel_rfl) (by rfl) (fun v l t h => by first | rfl | (obtain ⟨_, h⟩ := h; have h : l = true := h; subst h; rfl) | (obtain ⟨_, h⟩ := h; have h : l = false := h; subst h; rfl))
       ·refine emit_call (av_str (null := (-1)) (by decide)) (by kernel_rfl) (by rfl) (fun v l t h => by first | rfl | (obtain ⟨_, h⟩ := h; have h : l = true := h; subst h; rfl) | (obtain ⟨_, h⟩ := h; have h : l = false := h; subst h; rfl))
      ·refine emit_fields (σ := aLeaveGroupRequest_1) (i := 1) rfl ?_ ?_ (by rfl)
       ·refine emit_had (σ := aLeaveGroupRequest_1) (i := 1) (E := fun _ fl x => leafE 8 0 fl x) ?_ (by intro v l h; simp [Zk, Zf] at h; exact hadW_of (by decide) (by omega) (by omega)) (fun v l t _ => by simp [encW])
        refine emit_leaf (σ := aLeaveGroupRequest_1) (i := 1) (o := 1) (ty := .pstr) ?_ (by rfl) (by kernel_rfl) (by kernel_rfl) rfl rfl
        refine emit_cond (rs := [_]) (tstw_flex (by rfl)) ?_ ?_ preV_stable (by rfl)
        ·refine emit_call (av_cnstr (null := 0) (by decide)) (by kernel_rfl) (by rfl) (fun v l t h => by first | rfl | (obtain ⟨_, h⟩ := h; have h : l = true := h; subst h; rfl) | (obtain ⟨_, h⟩ := h; have h : l = false := h; subst h; rfl))
        ·refine emit_call (av_nstr (null := 0) (by decide)) (by kernel_rfl) (by rfl) (fun v l t h => by first | rfl | (obtain ⟨_, h⟩ := h; have h : l = true := h; subst h; rfl) | (obtain ⟨_, h⟩ := h; have h : l = false := h; subst h; rfl))
       ·refine emit_fields (σ := aLeaveGroupRequest_1) (i := 2) rfl ?_ ?_ (by rfl)
        ·refine emit_cond (rs := [11]) (tstw_geq (by rfl)) ?_ ?_ (preH_stable (σ := aLeaveGroupRequest_1) (i := 2)) (by rfl)
         ·refine emit_had (σ := aLeaveGroupRequest_1) (i := 2) (E := fun _ fl x => leafE 8 5 fl x) ?_ (by intro v l h; simp [Zk, Zf] at h; exact hadW_of (by decide) (by omega) (by omega)) (fun v l t _ => by simp [encW])
          refine emit_leaf (σ := aLeaveGroupRequest_1) (i := 2) (o := 2) (ty := .pstr) ?_ (by rfl) (by kernel_rfl) (by kernel_rfl) rfl rfl
          refine emit_cond (rs := [_]) (tstw_flex (by rfl)) ?_ ?_ preV_stable (by rfl)
          ·refine emit_call (av_cnstr (null := 5) (by decide)) (by kernel_rfl) (by rfl) (fun v l t h => by first | rfl | (obtain ⟨_, h⟩ := h; have h : l = true := h; subst h; rfl) | (obtain ⟨_, h⟩ := h; have h : l = false := h; subst h; rfl))
          ·refine emit_call (av_nstr (null := 5) (by decide)) (by kernel_rfl) (by rfl) (fun v l t h => by first | rfl | (obtain ⟨_, h⟩ := h; have h : l = true := h; subst h; rfl) | (obtain ⟨_, h⟩ := h; have h : l = false := h; subst h; rfl))
         ·exact emit_lacks (by intro v l h; simp [Zk, Zf] at h; exact hadW_not (by omega))
        ·refine emit_tags ?_ ?_ (by rfl) (by rfl) (by rfl)
         ·refine emit_tagn (σ := aLeaveGroupRequest_1) (o := 3) ?_ ?_ ?_ ?_ ?_ ?_ ?_ <;> first | rfl | decide | kernel_rfl
         ·refine emit_tage (σ := aLeaveGroupRequest_1) (o := 3) ?_ ?_ ?_ ?_ ?_ <;> first | rfl | decide | kernel_rfl
    ·exact emit_lacks (by intro v l h; simp [Zk, Zf] at h; exact hadW_not (by omega))
   ·refine emitw_tags ?_ (emitw_end (by rfl))
    refine emit_tags ?_ ?_ (by rfl) (by rfl) (by rfl)
    ·refine emit_tagn (σ := aLeaveGroupRequest) (o := 4) ?_ ?_ ?_ ?_ ?_ ?_ ?_ <;> first | rfl | decide | kernel_rfl
    ·refine emit_tage (σ := aLeaveGroupRequest) (o := 4) ?_ ?_ ?_ ?_ ?_ <;> first | rfl | decide | kernel_rfl
end Go.Proofs.YthkpmmjcmldjhaaGreatDoorRR
set_option linter.unusedSimpArgs false
set_option linter.unusedVariables false
namespace Go.Proofs.YthkpmmjcmldjhaaGreatDoorRR
open Go Go.RowKit
theorem new_LeaveGroupRequest : NewC Tryz.prog 16 sLeaveGroupRequest v_LeaveGroupRequest := by
 refine new_rule (z := .agg #[.int .i16 0, .string (str []), .string (str []), .slice none 0 0, .map none]) Tryz.func16 rfl rfl rfl (by kernel_rfl) (by decide) (fun w => ?_) d_sLeaveGroupRequest (by kernel_rfl)
 exact zero_ok (lay := sLeaveGroupRequest.lay) (tg := sLeaveGroupRequest.tg) (z := from' #[.int .i16 0, .string (str []), .string (str []), .slice none 0 0, .map none] 0) (by repeat' (first | rfl | trivial | apply And.intro)) (by rfl) w _
theorem set_LeaveGroupRequest : SetC Tryz.prog 20 sLeaveGroupRequest :=
 set_rule Tryz.func20 rfl rfl rfl (by kernel_rfl) (by kernel_rfl) rfl rfl rfl (by decide)
theorem doors_LeaveGroupRequest : ∃ ft, BehC Tryz.prog 10 Zf ft v_LeaveGroupRequest Zk Zg /\ WrI Zk ft v_LeaveGroupRequest Zg := by
 obtain ⟨ft, hr, hw⟩ := read_LeaveGroupRequest
 refine ⟨ft, ?_, hw⟩
 exact beh_rule (eb := 5) Tryz.func10 rfl rfl rfl (by kernel_rfl) (by kernel_rfl) (by kernel_rfl) (by kernel_rfl) (by kernel_rfl) (by kernel_rfl) (by kernel_rfl) (by kernel_rfl) (by kernel_rfl) new_LeaveGroupRequest set_LeaveGroupRequest (rf_rule Tryz.func21 rfl rfl rfl hr (by kernel_rfl)) app_LeaveGroupRequest rfl rfl rfl (by decide)
end Go.Proofs.YthkpmmjcmldjhaaGreatDoorRR
