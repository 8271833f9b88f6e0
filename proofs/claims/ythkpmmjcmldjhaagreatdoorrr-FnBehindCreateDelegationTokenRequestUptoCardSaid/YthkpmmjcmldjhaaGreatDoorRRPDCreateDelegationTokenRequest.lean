/-
  CreateDelegationTokenRequest: AppendTo.
  CreateDelegationTokenRequest: AppendTo.
-/
import Derived.Test.YthkpmmjcmldjhaaGreatDoorRRPRCreateDelegationTokenRequest
import Derived.Test.YthkpmmjcmldjhaaGreatDoorRRPYd
import Derived.Test.YthkpmmjcmldjhaaGreatDoorRRPLaw
set_option linter.unusedSimpArgs false
set_option linter.unusedVariables false
namespace Go.Proofs.YthkpmmjcmldjhaaGreatDoorRR
open Go Go.RowKit
abbrev aCreateDelegationTokenRequest : St := ⟨0, .cons 0 (.int .i16) (.cons 1 .pstr (.cons 2 .pstr (.cons 3 (.list (.struct (.cons 0 .str (.cons 1 .str .nil)) (some 2) 3) 3) (.cons 4 (.int .i64) .nil)))), some 5, 6⟩
abbrev aCreateDelegationTokenRequest_1 : St := ⟨11, .cons 0 .str (.cons 1 .str .nil), some 2, 3⟩
set_option maxRecDepth 100000 in
theorem app_CreateDelegationTokenRequest : AppToC Tryz.prog 28 aCreateDelegationTokenRequest (fun ver => decide ((2 : Int) <= ver)) Zk Zg := by
 refine app_top (m := 15) (N := 129) Tryz.func28 rfl rfl (by kernel_rfl) (by kernel_rfl) rfl rfl (by decide) (by decide) rfl ?_
 refine emitw_fields (σ := aCreateDelegationTokenRequest) (i := 1) rfl ?_ ?_ (by rfl)
 ·refine emit_cond (rs := [0]) (tstw_geq (by rfl)) ?_ ?_ (preH_stable (σ := aCreateDelegationTokenRequest) (i := 1)) (by rfl)
  ·refine emit_had (σ := aCreateDelegationTokenRequest) (i := 1) (E := fun _ fl x => leafE 8 3 fl x) ?_ (by intro v l h; simp [Zk, Zf] at h; exact hadW_of (by decide) (by omega) (by omega)) (fun v l t _ => by simp [encW])
   refine emit_leaf (σ := aCreateDelegationTokenRequest) (i := 1) (o := 1) (ty := .pstr) ?_ (by rfl) (by kernel_rfl) (by kernel_rfl) rfl rfl
   refine emit_cond (rs := [_]) (tstw_flex (by rfl)) ?_ ?_ preV_stable (by rfl)
   ·refine emit_call (av_cnstr (null := 3) (by decide)) (by kernel_rfl) (by rfl) (fun v l t h => by first | rfl | (obtain ⟨_, h⟩ := h; have h : l = true := h; subst h; rfl) | (obtain ⟨_, h⟩ := h; have h : l = false := h; subst h; rfl))
   ·refine emit_call (av_nstr (null := 3) (by decide)) (by kernel_rfl) (by rfl) (fun v l t h => by first | rfl | (obtain ⟨_, h⟩ := h; have h : l = true := h; subst h; rfl) | (obtain ⟨_, h⟩ := h; have h : l = false := h; subst h; rfl))
  ·exact emit_lacks (by intro v l h; simp [Zk, Zf] at h; exact hadW_not (by omega))
 ·refine emitw_fields (σ := aCreateDelegationTokenRequest) (i := 2) rfl ?_ ?_ (by rfl)
  ·refine emit_cond (rs := [0]) (tstw_geq (by rfl)) ?_ ?_ (preH_stable (σ := aCreateDelegationTokenRequest) (i := 2)) (by rfl)
   ·refine emit_had (σ := aCreateDelegationTokenRequest) (i := 2) (E := fun _ fl x => leafE 8 3 fl x) ?_ (by intro v l h; simp [Zk, Zf] at h; exact hadW_of (by decide) (by omega) (by omega)) (fun v l t _ => by simp [encW])
    refine emit_leaf (σ := aCreateDelegationTokenRequest) (i := 2) (o := 2) (ty := .pstr) ?_ (by rfl) (by kernel_rfl) (by kernel_rfl) rfl rfl
    refine emit_cond (rs := [_]) (tstw_flex (by rfl)) ?_ ?_ preV_stable (by rfl)
    ·refine emit_call (av_cnstr (null := 3) (by decide)) (by kernel_rfl) (by rfl) (fun v l t h => by first | rfl | (obtain ⟨_, h⟩ := h; have h : l = true := h; subst h; rfl) | (obtain ⟨_, h⟩ := h; have h : l = false := h; subst h; rfl))
    ·refine emit_call (av_nstr (null := 3) (by decide)) (by kernel_rfl) (by rfl) (fun v l t h => by first | rfl | (obtain ⟨_, h⟩ := h; have h : l = true := h; subst h; rfl) | (obtain ⟨_, h⟩ := h; have h : l = false := h; subst h; rfl))
   ·exact emit_lacks (by intro v l h; simp [Zk, Zf] at h; exact hadW_not (by omega))
  ·refine emitw_fields (σ := aCreateDelegationTokenRequest) (i := 3) rfl ?_ ?_ (by rfl)
   ·refine emit_had (σ := aCreateDelegationTokenRequest) (i := 3) (E := listE false (structW ([.mk 8 0 (-1) (-1) (-1) 0 0 [], .mk 8 0 (-1) (-1) (-1) 0 0 []]))) ?_ (by intro v l h; simp [Zk, Zf] at h; exact hadW_of (by decide) (by omega) (by omega)) (fun v l t _ => by simp [encW, listE] <;> rfl)
    refine emit_leaf (σ := aCreateDelegationTokenRequest) (i := 3) (o := 3) (ty := .list (.struct (.cons 0 .str (.cons 1 .str .nil)) (some 2) 3) 3) ?_ (by rfl) (by kernel_rfl) (by kernel_rfl) rfl rfl
    refine emit_list ?_ ?_ (by rfl)
    ·refine emit_cond (rs := [_]) (tstw_flex (by rfl)) ?_ ?_ preC_stable (by rfl)
     ·refine emit_cnt ct_calen (by kernel_rfl) (by kernel_rfl) rfl (by rfl) (fun v l h => h.2)
     ·refine emit_cnt ct_alen (by kernel_rfl) (by kernel_rfl) rfl (by rfl) (fun v l h => h.2)
    ·refine emit_loop ?_ (by kernel_rfl) rfl (by rfl)
     refine emit_els (σe := aCreateDelegationTokenRequest_1) ?_ (by kernel_rfl) rfl (by rfl) (by rfl)
     refine emit_fields (σ := aCreateDelegationTokenRequest_1) (i := 0) rfl ?_ ?_ (by rfl)
     ·refine emit_had (σ := aCreateDelegationTokenRequest_1) (i := 0) (E := fun _ fl x => leafE 8 (-1) fl x) ?_ (by intro v l h; simp [Zk, Zf] at h; exact hadW_of (by decide) (by omega) (by omega)) (fun v l t _ => by simp [encW])
      refine emit_leaf (σ := aCreateDelegationTokenRequest_1) (i := 0) (o := 0) (ty := .str) ?_ (by rfl) (by kernel_rfl) (by kernel_rfl) rfl rfl
      refine emit_cond (rs := [_]) (tstw_flex (by rfl)) ?_ ?_ preV_stable (by rfl)
      ·refine emit_call (av_cstr (null := (-1)) (by decide)) (by kernel_rfl) (by rfl) (fun v l t h => by first | rfl | (obtain ⟨_, h⟩ := h; have h : l = true := h; subst h; rfl) | (obtain ⟨_, h⟩ := h; have h : l = false := h; subst h; rfl))
      ·refine emit_call (av_str (null := (-1)) (by decide)) (by kernel_rfl) (by rfl) (fun v l t h => by first | rfl | (obtain ⟨_, h⟩ := h; have h : l = true := h; subst h; rfl) | (obtain ⟨_, h⟩ := h; have h : l = false := h; subst h; rfl))
     ·refine emit_fields (σ := aCreateDelegationTokenRequest_1) (i := 1) rfl ?_ ?_ (by rfl)
      ·refine emit_had (σ := aCreateDelegationTokenRequest_1) (i := 1) (E := fun _ fl x => leafE 8 (-1) fl x) ?_ (by intro v l h; simp [Zk, Zf] at h; exact hadW_of (by decide) (by omega) (by omega)) (fun v l t _ => by simp [encW])
       refine emit_leaf (σ := aCreateDelegationTokenRequest_1) (i := 1) (o := 1) (ty := .str) ?_ (by rfl) (by kernel_rfl) (by kernel_rfl) rfl rfl
       refine emit_cond (rs := [_]) (tstw_flex (by rfl)) ?_ ?_ preV_stable (by rfl)
       ·refine emit_call (av_cstr (null := (-1)) (by decide)) (by kernel_rfl) (by rfl) (fun v l t h => by first | rfl | (obtain ⟨_, h⟩ := h; have h : l = true := h; subst h; rfl) | (obtain ⟨_, h⟩ := h; have h : l = false := h; subst h; rfl))
       ·refine emit_call (av_str (null := (-1)) (by decide)) (by kernel_rfl) (by rfl) (fun v l t h => by first | rfl | (obtain ⟨_, h⟩ := h; have h : l = true := h; subst h; rfl) | (obtain ⟨_, h⟩ := h; have h : l = false := h; subst h; rfl))
      ·refine emit_tags ?_ ?_ (by rfl) (by rfl) (by rfl)
       ·refine emit_tagn (σ := aCreateDelegationTokenRequest_1) (o := 2) ?_ ?_ ?_ ?_ ?_ ?_ ?_ <;> first | rfl | decide | kernel_rfl
       ·refine emit_tage (σ := aCreateDelegationTokenRequest_1) (o := 2) ?_ ?_ ?_ ?_ ?_ <;> first | rfl | decide | kernel_rfl
   ·refine emitw_fields (σ := aCreateDelegationTokenRequest) (i := 4) rfl ?_ ?_ (by rfl)
    ·refine emit_had (σ := aCreateDelegationTokenRequest) (i := 4) (E := fun _ fl x => leafE 4 (-1) fl x) ?_ (by intro v l h; simp [Zk, Zf] at h; exact hadW_of (by decide) (by omega) (by omega)) (fun v l t _ => by simp [encW])
     refine emit_leaf (σ := aCreateDelegationTokenRequest) (i := 4) (o := 4) (ty := .int .i64) ?_ (by rfl) (by kernel_rfl) (by kernel_rfl) rfl rfl
     refine emit_call (av_i64 (null := (-1)) (fl := true)) (by kernel_rfl) (by rfl) (fun v l t h => by first | rfl | (obtain ⟨_, h⟩ := h; have h : l = true := h; subst h; rfl) | (obtain ⟨_, h⟩ := h; have h : l = false := h; subst h; rfl))
    ·refine emitw_tags ?_ (emitw_end (by rfl))
     refine emit_tags ?_ ?_ (by rfl) (by rfl) (by rfl)
     ·refine emit_tagn (σ := aCreateDelegationTokenRequest) (o := 5) ?_ ?_ ?_ ?_ ?_ ?_ ?_ <;> first | rfl | decide | kernel_rfl
     ·refine emit_tage (σ := aCreateDelegationTokenRequest) (o := 5) ?_ ?_ ?_ ?_ ?_ <;> first | rfl | decide | kernel_rfl
end Go.Proofs.YthkpmmjcmldjhaaGreatDoorRR
set_option linter.unusedSimpArgs false
set_option linter.unusedVariables false
namespace Go.Proofs.YthkpmmjcmldjhaaGreatDoorRR
open Go Go.RowKit
theorem new_CreateDelegationTokenRequest : NewC Tryz.prog 23 sCreateDelegationTokenRequest v_CreateDelegationTokenRequest := by
 refine new_rule (z := .agg #[.int .i16 0, .pointer none, .pointer none, .slice none 0 0, .int .i64 0, .map none]) Tryz.func23 rfl rfl rfl (by kernel_rfl) (by decide) (fun w => ?_) d_sCreateDelegationTokenRequest (by kernel_rfl)
 exact zero_ok (lay := sCreateDelegationTokenRequest.lay) (tg := sCreateDelegationTokenRequest.tg) (z := from' #[.int .i16 0, .pointer none, .pointer none, .slice none 0 0, .int .i64 0, .map none] 0) (by repeat' (first | rfl | trivial | apply And.intro)) (by rfl) w _
theorem set_CreateDelegationTokenRequest : SetC Tryz.prog 26 sCreateDelegationTokenRequest :=
 set_rule Tryz.func26 rfl rfl rfl (by kernel_rfl) (by kernel_rfl) rfl rfl rfl (by decide)
theorem doors_CreateDelegationTokenRequest : ∃ ft, BehC Tryz.prog 14 Zf ft v_CreateDelegationTokenRequest Zk Zg /\ WrI Zk ft v_CreateDelegationTokenRequest Zg := by
 obtain ⟨ft, hr, hw⟩ := read_CreateDelegationTokenRequest
 refine ⟨ft, ?_, hw⟩
 exact beh_rule (eb := 5) Tryz.func14 rfl rfl rfl (by kernel_rfl) (by kernel_rfl) (by kernel_rfl) (by kernel_rfl) (by kernel_rfl) (by kernel_rfl) (by kernel_rfl) (by kernel_rfl) (by kernel_rfl) new_CreateDelegationTokenRequest set_CreateDelegationTokenRequest (rf_rule Tryz.func27 rfl rfl rfl hr (by kernel_rfl)) app_CreateDelegationTokenRequest rfl rfl rfl (by decide)
end Go.Proofs.YthkpmmjcmldjhaaGreatDoorRR
