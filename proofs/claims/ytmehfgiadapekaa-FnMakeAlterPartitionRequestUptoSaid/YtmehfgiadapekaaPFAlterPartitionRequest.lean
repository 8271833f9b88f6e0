/-
  AlterPartitionRequest: AppendTo.
  AlterPartitionRequest: its fields are set.
-/
import Derived.Test.YtmehfgiadapekaaPYu
import Derived.Test.YtmehfgiadapekaaPZd
import Derived.Test.YtmehfgiadapekaaPZx
set_option linter.unusedSimpArgs false
set_option linter.unusedVariables false
namespace Go.Proofs.Ytmehfgiadapekaa
open Go Go.RowKit
abbrev Zg : List FD := [.mk 3 0 (-1) (-1) (-1) 0 0 [], .mk 4 0 (-1) (-1) (-1) (-1) 0 [], .mk 11 0 (-1) (-1) (-1) 0 10 [.mk 8 0 1 (-1) (-1) 0 0 [], .mk 7 2 (-1) (-1) (-1) 0 0 [], .mk 11 0 (-1) (-1) (-1) 0 10 [.mk 3 0 (-1) (-1) (-1) 0 0 [], .mk 3 0 (-1) (-1) (-1) 0 0 [], .mk 11 0 2 (-1) (-1) 0 3 [], .mk 11 3 (-1) (-1) (-1) 0 10 [.mk 3 0 (-1) (-1) (-1) 0 0 [], .mk 4 0 (-1) (-1) (-1) (-1) 0 []], .mk 1 1 (-1) (-1) (-1) 0 0 [], .mk 3 0 (-1) (-1) (-1) 0 0 []]]]
abbrev Zf : Int -> Bool := fun ver => decide ((0 : Int) <= ver)
abbrev Zk : OkV := fun ver fl => 0 <= ver /\ ver <= 3 /\ fl = Zf ver
abbrev aAlterPartitionRequest : St := ⟨0, .cons 0 (.int .i16) (.cons 1 (.int .i32) (.cons 2 (.int .i64) (.cons 3 (.list (.struct (.cons 0 .str (.cons 1 .uuid (.cons 17 (.list (.struct (.cons 0 (.int .i32) (.cons 1 (.int .i32) (.cons 2 (.list (.int .i32) 1) (.cons 3 (.list (.struct (.cons 0 (.int .i32) (.cons 1 (.int .i64) .nil)) (some 2) 3) 3) (.cons 4 (.int .i8) (.cons 5 (.int .i32) .nil)))))) (some 6) 7) 7) .nil))) (some 18) 19) 19) .nil))), some 4, 5⟩
abbrev aAlterPartitionRequest_1 : St := ⟨11, .cons 0 .str (.cons 1 .uuid (.cons 17 (.list (.struct (.cons 0 (.int .i32) (.cons 1 (.int .i32) (.cons 2 (.list (.int .i32) 1) (.cons 3 (.list (.struct (.cons 0 (.int .i32) (.cons 1 (.int .i64) .nil)) (some 2) 3) 3) (.cons 4 (.int .i8) (.cons 5 (.int .i32) .nil)))))) (some 6) 7) 7) .nil)), some 18, 19⟩
abbrev aAlterPartitionRequest_2 : St := ⟨16, .cons 0 (.int .i32) (.cons 1 (.int .i32) (.cons 2 (.list (.int .i32) 1) (.cons 3 (.list (.struct (.cons 0 (.int .i32) (.cons 1 (.int .i64) .nil)) (some 2) 3) 3) (.cons 4 (.int .i8) (.cons 5 (.int .i32) .nil))))), some 6, 7⟩
abbrev aAlterPartitionRequest_3 : St := ⟨24, .cons 0 (.int .i32) (.cons 1 (.int .i64) .nil), some 2, 3⟩
set_option maxRecDepth 100000 in
theorem app_AlterPartitionRequest : AppToC Try.prog 120 aAlterPartitionRequest (fun ver => decide ((0 : Int) <= ver)) Zk Zg := by
 refine app_top (m := 29) (N := 278) Try.func120 rfl rfl (by kernel_rfl) (by kernel_rfl) rfl rfl (by decide) (by decide) rfl ?_
 refine emitw_fields (σ := aAlterPartitionRequest) (i := 1) rfl ?_ ?_ (by rfl)
 ·refine emit_had (σ := aAlterPartitionRequest) (i := 1) (E := fun _ fl x => leafE 3 (-1) fl x) ?_ (by intro v l h; simp [Zk, Zf] at h; exact hadW_of (by decide) (by omega) (by omega)) (fun v l t _ => by simp [encW])
  refine emit_leaf (σ := aAlterPartitionRequest) (i := 1) (o := 1) (ty := .int .i32) ?_ (by rfl) (by kernel_rfl) (by kernel_rfl) rfl rfl
  refine emit_call (av_i32 (null := (-1)) (fl := true)) (by kernel_rfl) (by rfl) (fun v l t h => by first | rfl | (obtain ⟨_, h⟩ := h; have h : l = true := h; subst h; rfl) | (obtain ⟨_, h⟩ := h; have h : l = false := h; subst h; rfl))
 ·refine emitw_fields (σ := aAlterPartitionRequest) (i := 2) rfl ?_ ?_ (by rfl)
  ·refine emit_had (σ := aAlterPartitionRequest) (i := 2) (E := fun _ fl x => leafE 4 (-1) fl x) ?_ (by intro v l h; simp [Zk, Zf] at h; exact hadW_of (by decide) (by omega) (by omega)) (fun v l t _ => by simp [encW])
   refine emit_leaf (σ := aAlterPartitionRequest) (i := 2) (o := 2) (ty := .int .i64) ?_ (by rfl) (by kernel_rfl) (by kernel_rfl) rfl rfl
   refine emit_call (av_i64 (null := (-1)) (fl := true)) (by kernel_rfl) (by rfl) (fun v l t h => by first | rfl | (obtain ⟨_, h⟩ := h; have h : l = true := h; subst h; rfl) | (obtain ⟨_, h⟩ := h; have h : l = false := h; subst h; rfl))
  ·refine emitw_fields (σ := aAlterPartitionRequest) (i := 3) rfl ?_ ?_ (by rfl)
   ·refine emit_had (σ := aAlterPartitionRequest) (i := 3) (E := listE false (structW ([.mk 8 0 1 (-1) (-1) 0 0 [], .mk 7 2 (-1) (-1) (-1) 0 0 [], .mk 11 0 (-1) (-1) (-1) 0 10 [.mk 3 0 (-1) (-1) (-1) 0 0 [], .mk 3 0 (-1) (-1) (-1) 0 0 [], .mk 11 0 2 (-1) (-1) 0 3 [], .mk 11 3 (-1) (-1) (-1) 0 10 [.mk 3 0 (-1) (-1) (-1) 0 0 [], .mk 4 0 (-1) (-1) (-1) (-1) 0 []], .mk 1 1 (-1) (-1) (-1) 0 0 [], .mk 3 0 (-1) (-1) (-1) 0 0 []]]))) ?_ (by intro v l h; simp [Zk, Zf] at h; exact hadW_of (by decide) (by omega) (by omega)) (fun v l t _ => by simp [encW, listE] <;> rfl)
    refine emit_leaf (σ := aAlterPartitionRequest) (i := 3) (o := 3) (ty := .list (.struct (.cons 0 .str (.cons 1 .uuid (.cons 17 (.list (.struct (.cons 0 (.int .i32) (.cons 1 (.int .i32) (.cons 2 (.list (.int .i32) 1) (.cons 3 (.list (.struct (.cons 0 (.int .i32) (.cons 1 (.int .i64) .nil)) (some 2) 3) 3) (.cons 4 (.int .i8) (.cons 5 (.int .i32) .nil)))))) (some 6) 7) 7) .nil))) (some 18) 19) 19) ?_ (by rfl) (by kernel_rfl) (by kernel_rfl) rfl rfl
    refine emit_list ?_ ?_ (by rfl)
    ·refine emit_cond (rs := [_]) (tstw_flex (by rfl)) ?_ ?_ preC_stable (by rfl)
     ·refine emit_cnt ct_calen (by kernel_rfl) (by kernel_rfl) rfl (by rfl) (fun v l h => h.2)
     ·refine emit_cnt ct_alen (by kernel_rfl) (by kernel_rfl) rfl (by rfl) (fun v l h => h.2)
    ·refine emit_loop ?_ (by kernel_rfl) rfl (by rfl)
     refine emit_els (σe := aAlterPartitionRequest_1) ?_ (by kernel_rfl) rfl (by rfl) (by rfl)
     refine emit_fields (σ := aAlterPartitionRequest_1) (i := 0) rfl ?_ ?_ (by rfl)
     ·refine emit_cond (rs := [11]) (tstw_and (by rfl)) ?_ ?_ (preH_stable (σ := aAlterPartitionRequest_1) (i := 0)) (by rfl)
      ·refine emit_had (σ := aAlterPartitionRequest_1) (i := 0) (E := fun _ fl x => leafE 8 (-1) fl x) ?_ (by intro v l h; simp [Zk, Zf] at h; exact hadW_of (by decide) (by omega) (by omega)) (fun v l t _ => by simp [encW])
       refine emit_leaf (σ := aAlterPartitionRequest_1) (i := 0) (o := 0) (ty := .str) ?_ (by rfl) (by kernel_rfl) (by kernel_rfl) rfl rfl
       refine emit_cond (rs := [_]) (tstw_flex (by rfl)) ?_ ?_ preV_stable (by rfl)
       ·refine emit_call (av_cstr (null := (-1)) (by decide)) (by kernel_rfl) (by rfl) (fun v l t h => by first | rfl | (obtain ⟨_, h⟩ := h; have h : l = true := h; subst h; rfl) | (obtain ⟨_, h⟩ := h; have h : l = false := h; subst h; rfl))
       ·refine emit_call (av_str (null := (-1)) (by decide)) (by kernel_rfl) (by rfl) (fun v l t h => by first | rfl | (obtain ⟨_, h⟩ := h; have h : l = true := h; subst h; rfl) | (obtain ⟨_, h⟩ := h; have h : l = false := h; subst h; rfl))
      ·exact emit_lacks (by intro v l h; simp [Zk, Zf] at h; exact hadW_not (by omega))
     ·refine emit_fields (σ := aAlterPartitionRequest_1) (i := 1) rfl ?_ ?_ (by rfl)
      ·refine emit_cond (rs := [11]) (tstw_geq (by rfl)) ?_ ?_ (preH_stable (σ := aAlterPartitionRequest_1) (i := 1)) (by rfl)
       ·refine emit_had (σ := aAlterPartitionRequest_1) (i := 1) (E := fun _ fl x => leafE 7 (-1) fl x) ?_ (by intro v l h; simp [Zk, Zf] at h; exact hadW_of (by decide) (by omega) (by omega)) (fun v l t _ => by simp [encW])
        exact emit_uuidb (σ := aAlterPartitionRequest_1) (i := 1) (o := 1) (av_uuid (null := (-1)) (fl := true)) (by kernel_rfl) (fun v l t h => by first | rfl | (obtain ⟨_, h⟩ := h; have h : l = true := h; subst h; rfl) | (obtain ⟨_, h⟩ := h; have h : l = false := h; subst h; rfl)) (by rfl) (by kernel_rfl) (by kernel_rfl) rfl rfl (by kernel_rfl) rfl
       ·exact emit_lacks (by intro v l h; simp [Zk, Zf] at h; exact hadW_not (by omega))
      ·refine emit_fields (σ := aAlterPartitionRequest_1) (i := 2) rfl ?_ ?_ (by rfl)
       ·refine emit_had (σ := aAlterPartitionRequest_1) (i := 2) (E := listE false (structW ([.mk 3 0 (-1) (-1) (-1) 0 0 [], .mk 3 0 (-1) (-1) (-1) 0 0 [], .mk 11 0 2 (-1) (-1) 0 3 [], .mk 11 3 (-1) (-1) (-1) 0 10 [.mk 3 0 (-1) (-1) (-1) 0 0 [], .mk 4 0 (-1) (-1) (-1) (-1) 0 []], .mk 1 1 (-1) (-1) (-1) 0 0 [], .mk 3 0 (-1) (-1) (-1) 0 0 []]))) ?_ (by intro v l h; simp [Zk, Zf] at h; exact hadW_of (by decide) (by omega) (by omega)) (fun v l t _ => by simp [encW, listE] <;> rfl)
        refine emit_leaf (σ := aAlterPartitionRequest_1) (i := 2) (o := 17) (ty := .list (.struct (.cons 0 (.int .i32) (.cons 1 (.int .i32) (.cons 2 (.list (.int .i32) 1) (.cons 3 (.list (.struct (.cons 0 (.int .i32) (.cons 1 (.int .i64) .nil)) (some 2) 3) 3) (.cons 4 (.int .i8) (.cons 5 (.int .i32) .nil)))))) (some 6) 7) 7) ?_ (by rfl) (by kernel_rfl) (by kernel_rfl) rfl rfl
        refine emit_list ?_ ?_ (by rfl)
        ·refine emit_cond (rs := [_]) (tstw_flex (by rfl)) ?_ ?_ preC_stable (by rfl)
         ·refine emit_cnt ct_calen (by kernel_rfl) (by kernel_rfl) rfl (by rfl) (fun v l h => h.2)
         ·refine emit_cnt ct_alen (by kernel_rfl) (by kernel_rfl) rfl (by rfl) (fun v l h => h.2)
        ·refine emit_loop ?_ (by kernel_rfl) rfl (by rfl)
         refine emit_els (σe := aAlterPartitionRequest_2) ?_ (by kernel_rfl) rfl (by rfl) (by rfl)
         refine emit_fields (σ := aAlterPartitionRequest_2) (i := 0) rfl ?_ ?_ (by rfl)
         ·refine emit_had (σ := aAlterPartitionRequest_2) (i := 0) (E := fun _ fl x => leafE 3 (-1) fl x) ?_ (by intro v l h; simp [Zk, Zf] at h; exact hadW_of (by decide) (by omega) (by omega)) (fun v l t _ => by simp [encW])
          refine emit_leaf (σ := aAlterPartitionRequest_2) (i := 0) (o := 0) (ty := .int .i32) ?_ (by rfl) (by kernel_rfl) (by kernel_rfl) rfl rfl
          refine emit_call (av_i32 (null := (-1)) (fl := true)) (by kernel_rfl) (by rfl) (fun v l t h => by first | rfl | (obtain ⟨_, h⟩ := h; have h : l = true := h; subst h; rfl) | (obtain ⟨_, h⟩ := h; have h : l = false := h; subst h; rfl))
         ·refine emit_fields (σ := aAlterPartitionRequest_2) (i := 1) rfl ?_ ?_ (by rfl)
          ·refine emit_had (σ := aAlterPartitionRequest_2) (i := 1) (E := fun _ fl x => leafE 3 (-1) fl x) ?_ (by intro v l h; simp [Zk, Zf] at h; exact hadW_of (by decide) (by omega) (by omega)) (fun v l t _ => by simp [encW])
           refine emit_leaf (σ := aAlterPartitionRequest_2) (i := 1) (o := 1) (ty := .int .i32) ?_ (by rfl) (by kernel_rfl) (by kernel_rfl) rfl rfl
           refine emit_call (av_i32 (null := (-1)) (fl := true)) (by kernel_rfl) (by rfl) (fun v l t h => by first | rfl | (obtain ⟨_, h⟩ := h; have h : l = true := h; subst h; rfl) | (obtain ⟨_, h⟩ := h; have h : l = false := h; subst h; rfl))
          ·refine emit_fields (σ := aAlterPartitionRequest_2) (i := 2) rfl ?_ ?_ (by rfl)
           ·refine emit_cond (rs := [16]) (tstw_and (by rfl)) ?_ ?_ (preH_stable (σ := aAlterPartitionRequest_2) (i := 2)) (by rfl)
            ·refine emit_had (σ := aAlterPartitionRequest_2) (i := 2) (E := listE false (fun _ fl y => leafE 3 (-1) fl y)) ?_ (by intro v l h; simp [Zk, Zf] at h; exact hadW_of (by decide) (by omega) (by omega)) (fun v l t _ => by simp [encW, listE] <;> rfl)
             refine emit_leaf (σ := aAlterPartitionRequest_2) (i := 2) (o := 2) (ty := .list (.int .i32) 1) ?_ (by rfl) (by kernel_rfl) (by kernel_rfl) rfl rfl
             refine emit_list ?_ ?_ (by rfl)
             ·refine emit_cond (rs := [_]) (tstw_flex (by rfl)) ?_ ?_ preC_stable (by rfl)
              ·refine emit_cnt ct_calen (by kernel_rfl) (by kernel_rfl) rfl (by rfl) (fun v l h => h.2)
              ·refine emit_cnt ct_alen (by kernel_rfl) (by kernel_rfl) rfl (by rfl) (fun v l h => h.2)
             ·refine emit_loop ?_ (by kernel_rfl) rfl (by rfl)
              refine emit_el (e := .int .i32) ?_ rfl (by kernel_rfl) (by kernel_rfl) (by rfl)
              refine emit_call (av_i32 (null := (-1)) (fl := true)) (by kernel_rfl) (by rfl) (fun v l t h => by first | rfl | (obtain ⟨_, h⟩ := h; have h : l = true := h; subst h; rfl) | (obtain ⟨_, h⟩ := h; have h : l = false := h; subst h; rfl))
            ·exact emit_lacks (by intro v l h; simp [Zk, Zf] at h; exact hadW_not (by omega))
           ·refine emit_fields (σ := aAlterPartitionRequest_2) (i := 3) rfl ?_ ?_ (by rfl)
            ·refine emit_cond (rs := [16]) (tstw_geq (by rfl)) ?_ ?_ (preH_stable (σ := aAlterPartitionRequest_2) (i := 3)) (by rfl)
             ·refine emit_had (σ := aAlterPartitionRequest_2) (i := 3) (E := listE false (structW ([.mk 3 0 (-1) (-1) (-1) 0 0 [], .mk 4 0 (-1) (-1) (-1) (-1) 0 []]))) ?_ (by intro v l h; simp [Zk, Zf] at h; exact hadW_of (by decide) (by omega) (by omega)) (fun v l t _ => by simp [encW, listE] <;> rfl)
              refine emit_leaf (σ := aAlterPartitionRequest_2) (i := 3) (o := 3) (ty := .list (.struct (.cons 0 (.int .i32) (.cons 1 (.int .i64) .nil)) (some 2) 3) 3) ?_ (by rfl) (by kernel_rfl) (by kernel_rfl) rfl rfl
              refine emit_list ?_ ?_ (by rfl)
              ·refine emit_cond (rs := [_]) (tstw_flex (by rfl)) ?_ ?_ preC_stable (by rfl)
               ·refine emit_cnt ct_calen (by kernel_rfl) (by kernel_rfl) rfl (by rfl) (fun v l h => h.2)
               ·refine emit_cnt ct_alen (by kernel_rfl) (by kernel_rfl) rfl (by rfl) (fun v l h => h.2)
              ·refine emit_loop ?_ (by kernel_rfl) rfl (by rfl)
               refine emit_els (σe := aAlterPartitionRequest_3) ?_ (by kernel_rfl) rfl (by rfl) (by rfl)
               refine emit_fields (σ := aAlterPartitionRequest_3) (i := 0) rfl ?_ ?_ (by rfl)
               ·refine emit_had (σ := aAlterPartitionRequest_3) (i := 0) (E := fun _ fl x => leafE 3 (-1) fl x) ?_ (by intro v l h; simp [Zk, Zf] at h; exact hadW_of (by decide) (by omega) (by omega)) (fun v l t _ => by simp [encW])
                refine emit_leaf (σ := aAlterPartitionRequest_3) (i := 0) (o := 0) (ty := .int .i32) ?_ (by rfl) (by kernel_rfl) (by kernel_rfl) rfl rfl
                refine emit_call (av_i32 (null := (-1)) (fl := true)) (by kernel_rfl) (by rfl) (fun v l t h => by first | rfl | (obtain ⟨_, h⟩ := h; have h : l = true := h; subst h; rfl) | (obtain ⟨_, h⟩ := h; have h : l = false := h; subst h; rfl))
               ·refine emit_fields (σ := aAlterPartitionRequest_3) (i := 1) rfl ?_ ?_ (by rfl)
                ·refine emit_had (σ := aAlterPartitionRequest_3) (i := 1) (E := fun _ fl x => leafE 4 (-1) fl x) ?_ (by intro v l h; simp [Zk, Zf] at h; exact hadW_of (by decide) (by omega) (by omega)) (fun v l t _ => by simp [encW])
                 refine emit_leaf (σ := aAlterPartitionRequest_3) (i := 1) (o := 1) (ty := .int .i64) ?_ (by rfl) (by kernel_rfl) (by kernel_rfl) rfl rfl
                 refine emit_call (av_i64 (null := (-1)) (fl := true)) (by kernel_rfl) (by rfl) (fun v l t h => by first | rfl | (obtain ⟨_, h⟩ := h; have h : l = true := h; subst h; rfl) | (obtain ⟨_, h⟩ := h; have h : l = false := h; subst h; rfl))
                ·refine emit_tags ?_ ?_ (by rfl) (by rfl) (by rfl)
                 ·refine emit_tagn (σ := aAlterPartitionRequest_3) (o := 2) ?_ ?_ ?_ ?_ ?_ ?_ ?_ <;> first | rfl | decide | kernel_rfl
                 ·refine emit_tage (σ := aAlterPartitionRequest_3) (o := 2) ?_ ?_ ?_ ?_ ?_ <;> first | rfl | decide | kernel_rfl
             ·exact emit_lacks (by intro v l h; simp [Zk, Zf] at h; exact hadW_not (by omega))
            ·refine emit_fields (σ := aAlterPartitionRequest_2) (i := 4) rfl ?_ ?_ (by rfl)
             ·refine emit_cond (rs := [16]) (tstw_geq (by rfl)) ?_ ?_ (preH_stable (σ := aAlterPartitionRequest_2) (i := 4)) (by rfl)
              ·refine emit_had (σ := aAlterPartitionRequest_2) (i := 4) (E := fun _ fl x => leafE 1 (-1) fl x) ?_ (by intro v l h; simp [Zk, Zf] at h; exact hadW_of (by decide) (by omega) (by omega)) (fun v l t _ => by simp [encW])
               refine emit_leaf (σ := aAlterPartitionRequest_2) (i := 4) (o := 4) (ty := .int .i8) ?_ (by rfl) (by kernel_rfl) (by kernel_rfl) rfl rfl
               refine emit_call (av_i8 (null := (-1)) (fl := true)) (by kernel_rfl) (by rfl) (fun v l t h => by first | rfl | (obtain ⟨_, h⟩ := h; have h : l = true := h; subst h; rfl) | (obtain ⟨_, h⟩ := h; have h : l = false := h; subst h; rfl))
              ·exact emit_lacks (by intro v l h; simp [Zk, Zf] at h; exact hadW_not (by omega))
             ·refine emit_fields (σ := aAlterPartitionRequest_2) (i := 5) rfl ?_ ?_ (by rfl)
              ·refine emit_had (σ := aAlterPartitionRequest_2) (i := 5) (E := fun _ fl x => leafE 3 (-1) fl x) ?_ (by intro v l h; simp [Zk, Zf] at h; exact hadW_of (by decide) (by omega) (by omega)) (fun v l t _ => by simp [encW])
               refine emit_leaf (σ := aAlterPartitionRequest_2) (i := 5) (o := 5) (ty := .int .i32) ?_ (by rfl) (by kernel_rfl) (by kernel_rfl) rfl rfl
               refine emit_call (av_i32 (null := (-1)) (fl := true)) (by kernel_rfl) (by rfl) (fun v l t h => by first | rfl | (obtain ⟨_, h⟩ := h; have h : l = true := h; subst h; rfl) | (obtain ⟨_, h⟩ := h; have h : l = false := h; subst h; rfl))
              ·refine emit_tags ?_ ?_ (by rfl) (by rfl) (by rfl)
               ·refine emit_tagn (σ := aAlterPartitionRequest_2) (o := 6) ?_ ?_ ?_ ?_ ?_ ?_ ?_ <;> first | rfl | decide | kernel_rfl
               ·refine emit_tage (σ := aAlterPartitionRequest_2) (o := 6) ?_ ?_ ?_ ?_ ?_ <;> first | rfl | decide | kernel_rfl
       ·refine emit_tags ?_ ?_ (by rfl) (by rfl) (by rfl)
        ·refine emit_tagn (σ := aAlterPartitionRequest_1) (o := 18) ?_ ?_ ?_ ?_ ?_ ?_ ?_ <;> first | rfl | decide | kernel_rfl
        ·refine emit_tage (σ := aAlterPartitionRequest_1) (o := 18) ?_ ?_ ?_ ?_ ?_ <;> first | rfl | decide | kernel_rfl
   ·refine emitw_tags ?_ (emitw_end (by rfl))
    refine emit_tags ?_ ?_ (by rfl) (by rfl) (by rfl)
    ·refine emit_tagn (σ := aAlterPartitionRequest) (o := 4) ?_ ?_ ?_ ?_ ?_ ?_ ?_ <;> first | rfl | decide | kernel_rfl
    ·refine emit_tage (σ := aAlterPartitionRequest) (o := 4) ?_ ?_ ?_ ?_ ?_ <;> first | rfl | decide | kernel_rfl
end Go.Proofs.Ytmehfgiadapekaa
set_option linter.unusedSimpArgs false
set_option linter.unusedVariables false
namespace Go.Proofs.Ytmehfgiadapekaa
open Go Go.RowKit
abbrev gAlterPartitionRequestTopicPartitionNewEpochISR : St := ⟨0, .cons 0 (.int .i32) (.cons 1 (.int .i64) .nil), none, 3⟩
abbrev ft_AlterPartitionRequestTopicPartitionNewEpochISR : List FD := [.mk 3 0 (-1) (-1) (-1) 0 0 [], .mk 4 0 (-1) (-1) (-1) (-1) 0 []]
set_option maxRecDepth 100000 in
theorem mk_AlterPartitionRequestTopicPartitionNewEpochISR : ValC Try.prog 205 (.struct gAlterPartitionRequestTopicPartitionNewEpochISR.lay (some 2) 3) (fun y => .part (fillsW ft_AlterPartitionRequestTopicPartitionNewEpochISR 0 y) y.U) (fun y => goksW ft_AlterPartitionRequestTopicPartitionNewEpochISR 0 y /\ UOk y.U) := by
 refine make_top (z := .agg #[.int .i32 0, .int .i64 0, .map none]) (T := 240) Try.func205 rfl rfl rfl (by decide) rfl (by decide) (by kernel_rfl) rfl (fun w F => ?_) rfl (by kernel_rfl) ?_
 ·exact Lay.zero_rep gAlterPartitionRequestTopicPartitionNewEpochISR.lay _ (by repeat' (first | rfl | trivial | apply And.intro))
 ·refine rest_cons ?_ ?_
  ·exact fst_mono (fst_make (mids := [_, _]) (i := 0) (j := 0) (o := 0) (k := 0) (T := 240) (ty := .int .i32) iat_C (by kernel_rfl) (by kernel_rfl) (val_num (kd := .i32) (by kernel_rfl) (by kernel_rfl) (by kernel_rfl) (by kernel_rfl)) rfl (by kernel_rfl) (by kernel_rfl) (by kernel_rfl) (by kernel_rfl) (by kernel_rfl)) rfl (fun _ _ => fk_i32) (fun _ h => trivial)
  refine rest_cons ?_ ?_
  ·exact fst_mono (fst_make (mids := [_]) (i := 1) (j := 1) (o := 1) (k := 1) (T := 240) (ty := .int .i64) iat_C (by kernel_rfl) (by kernel_rfl) (val_i64 (by kernel_rfl) (by kernel_rfl)) rfl (by kernel_rfl) (by kernel_rfl) (by kernel_rfl) (by kernel_rfl) (by kernel_rfl)) rfl (fun _ _ => fk_i64) (fun _ h => trivial)
  refine rest_ret (T := 240) rfl ?_ rfl (by kernel_rfl) (by kernel_rfl) (by kernel_rfl) (by kernel_rfl) rfl (by kernel_rfl)
  exact tags_set rfl (by kernel_rfl) (by kernel_rfl) (by kernel_rfl) rfl (by kernel_rfl) (by kernel_rfl) (by kernel_rfl) (tag_make (T := 240) (kt := 2) (TG := 64) setTag_spec (by kernel_rfl) (by kernel_rfl) (by kernel_rfl) (by kernel_rfl) (by kernel_rfl) (by kernel_rfl) (by kernel_rfl) (by kernel_rfl)) (by kernel_rfl)
abbrev gAlterPartitionRequestTopicPartition : St := ⟨0, .cons 0 (.int .i32) (.cons 1 (.int .i32) (.cons 2 (.list (.int .i32) 1) (.cons 3 (.list (.struct (.cons 0 (.int .i32) (.cons 1 (.int .i64) .nil)) (some 2) 3) 3) (.cons 4 (.int .i8) (.cons 5 (.int .i32) .nil))))), none, 7⟩
abbrev ft_AlterPartitionRequestTopicPartition : List FD := [.mk 3 0 (-1) (-1) (-1) 0 0 [], .mk 3 0 (-1) (-1) (-1) 0 0 [], .mk 11 0 2 (-1) (-1) 0 3 [], .mk 11 3 (-1) (-1) (-1) 0 10 [.mk 3 0 (-1) (-1) (-1) 0 0 [], .mk 4 0 (-1) (-1) (-1) (-1) 0 []], .mk 1 1 (-1) (-1) (-1) 0 0 [], .mk 3 0 (-1) (-1) (-1) 0 0 []]
set_option maxRecDepth 100000 in
theorem mk_AlterPartitionRequestTopicPartition : ValC Try.prog 201 (.struct gAlterPartitionRequestTopicPartition.lay (some 6) 7) (fun y => .part (fillsW ft_AlterPartitionRequestTopicPartition 0 y) y.U) (fun y => goksW ft_AlterPartitionRequestTopicPartition 0 y /\ UOk y.U) := by
 refine make_top (z := .agg #[.int .i32 0, .int .i32 0, .slice none 0 0, .slice none 0 0, .int .i8 0, .int .i32 0, .map none]) (T := 237) Try.func201 rfl rfl rfl (by decide) rfl (by decide) (by kernel_rfl) rfl (fun w F => ?_) rfl (by kernel_rfl) ?_
 ·exact Lay.zero_rep gAlterPartitionRequestTopicPartition.lay _ (by repeat' (first | rfl | trivial | apply And.intro))
 ·refine rest_cons ?_ ?_
  ·exact fst_mono (fst_make (mids := [_, _]) (i := 0) (j := 0) (o := 0) (k := 0) (T := 237) (ty := .int .i32) iat_C (by kernel_rfl) (by kernel_rfl) (val_num (kd := .i32) (by kernel_rfl) (by kernel_rfl) (by kernel_rfl) (by kernel_rfl)) rfl (by kernel_rfl) (by kernel_rfl) (by kernel_rfl) (by kernel_rfl) (by kernel_rfl)) rfl (fun _ _ => fk_i32) (fun _ h => trivial)
  refine rest_cons ?_ ?_
  ·exact fst_mono (fst_make (mids := [_, _]) (i := 1) (j := 1) (o := 1) (k := 1) (T := 237) (ty := .int .i32) iat_C (by kernel_rfl) (by kernel_rfl) (val_num (kd := .i32) (by kernel_rfl) (by kernel_rfl) (by kernel_rfl) (by kernel_rfl)) rfl (by kernel_rfl) (by kernel_rfl) (by kernel_rfl) (by kernel_rfl) (by kernel_rfl)) rfl (fun _ _ => fk_i32) (fun _ h => trivial)
  refine rest_cons ?_ ?_
  ·exact fst_mono (fst_list (i := 2) (j := 2) (o := 2) (e := 21) (sz := 1) (ety := .int .i32) iat_C (by kernel_rfl) (by kernel_rfl) (by kernel_rfl) (by kernel_rfl) (by kernel_rfl) rfl (by kernel_rfl) rfl (mk_make (T := 237) (k := 2) iat_C (by kernel_rfl) (by kernel_rfl) (by kernel_rfl) (by kernel_rfl) rfl (by kernel_rfl) (by kernel_rfl) (by kernel_rfl) rfl (by kernel_rfl) (by kernel_rfl) (by kernel_rfl)) (app_make_num (kd := .i32) (T := 237) (k := 2) (by kernel_rfl) (by kernel_rfl) (by kernel_rfl) (by kernel_rfl) (by kernel_rfl) (by kernel_rfl) (by kernel_rfl) (by kernel_rfl) (by kernel_rfl) (by kernel_rfl)) (by kernel_rfl) rfl rfl (by kernel_rfl) (by kernel_rfl)) (by simp [zeroW]) (fun _ _ => fk_leafs (by decide) fl_i32) (fun _ h => fo_nums h)
  refine rest_cons ?_ ?_
  ·exact fst_mono (fst_list (i := 3) (j := 3) (o := 3) (e := 240) (sz := 3) (ety := .struct (.cons 0 (.int .i32) (.cons 1 (.int .i64) .nil)) (some 2) 3) iat_C (by kernel_rfl) (by kernel_rfl) (by kernel_rfl) (by kernel_rfl) (by kernel_rfl) rfl (by kernel_rfl) rfl (mk_make (T := 237) (k := 3) iat_C (by kernel_rfl) (by kernel_rfl) (by kernel_rfl) (by kernel_rfl) rfl (by kernel_rfl) (by kernel_rfl) (by kernel_rfl) rfl (by kernel_rfl) (by kernel_rfl) (by kernel_rfl)) (app_make (T := 237) (k := 3) (by kernel_rfl) (by kernel_rfl) mk_AlterPartitionRequestTopicPartitionNewEpochISR (by kernel_rfl) (by kernel_rfl) (by kernel_rfl) (by kernel_rfl) (by kernel_rfl) (by kernel_rfl) (by kernel_rfl) rfl (by kernel_rfl)) (by kernel_rfl) rfl rfl (by kernel_rfl) (by kernel_rfl)) (by simp [zeroW]) (fun _ _ => fk_list) (fun _ h => fo_list h)
  refine rest_cons ?_ ?_
  ·exact fst_mono (fst_make (mids := [_, _]) (i := 4) (j := 4) (o := 4) (k := 4) (T := 237) (ty := .int .i8) iat_C (by kernel_rfl) (by kernel_rfl) (val_num (kd := .i8) (by kernel_rfl) (by kernel_rfl) (by kernel_rfl) (by kernel_rfl)) rfl (by kernel_rfl) (by kernel_rfl) (by kernel_rfl) (by kernel_rfl) (by kernel_rfl)) rfl (fun _ _ => fk_i8) (fun _ h => trivial)
  refine rest_cons ?_ ?_
  ·exact fst_mono (fst_make (mids := [_, _]) (i := 5) (j := 5) (o := 5) (k := 5) (T := 237) (ty := .int .i32) iat_C (by kernel_rfl) (by kernel_rfl) (val_num (kd := .i32) (by kernel_rfl) (by kernel_rfl) (by kernel_rfl) (by kernel_rfl)) rfl (by kernel_rfl) (by kernel_rfl) (by kernel_rfl) (by kernel_rfl) (by kernel_rfl)) rfl (fun _ _ => fk_i32) (fun _ h => trivial)
  refine rest_ret (T := 237) rfl ?_ rfl (by kernel_rfl) (by kernel_rfl) (by kernel_rfl) (by kernel_rfl) rfl (by kernel_rfl)
  exact tags_set rfl (by kernel_rfl) (by kernel_rfl) (by kernel_rfl) rfl (by kernel_rfl) (by kernel_rfl) (by kernel_rfl) (tag_make (T := 237) (kt := 6) (TG := 64) setTag_spec (by kernel_rfl) (by kernel_rfl) (by kernel_rfl) (by kernel_rfl) (by kernel_rfl) (by kernel_rfl) (by kernel_rfl) (by kernel_rfl)) (by kernel_rfl)
abbrev gAlterPartitionRequestTopic : St := ⟨0, .cons 0 .str (.cons 1 .uuid (.cons 17 (.list (.struct (.cons 0 (.int .i32) (.cons 1 (.int .i32) (.cons 2 (.list (.int .i32) 1) (.cons 3 (.list (.struct (.cons 0 (.int .i32) (.cons 1 (.int .i64) .nil)) (some 2) 3) 3) (.cons 4 (.int .i8) (.cons 5 (.int .i32) .nil)))))) (some 6) 7) 7) .nil)), none, 19⟩
abbrev ft_AlterPartitionRequestTopic : List FD := [.mk 8 0 1 (-1) (-1) 0 0 [], .mk 7 2 (-1) (-1) (-1) 0 0 [], .mk 11 0 (-1) (-1) (-1) 0 10 [.mk 3 0 (-1) (-1) (-1) 0 0 [], .mk 3 0 (-1) (-1) (-1) 0 0 [], .mk 11 0 2 (-1) (-1) 0 3 [], .mk 11 3 (-1) (-1) (-1) 0 10 [.mk 3 0 (-1) (-1) (-1) 0 0 [], .mk 4 0 (-1) (-1) (-1) (-1) 0 []], .mk 1 1 (-1) (-1) (-1) 0 0 [], .mk 3 0 (-1) (-1) (-1) 0 0 []]]
set_option maxRecDepth 100000 in
theorem mk_AlterPartitionRequestTopic : ValC Try.prog 184 (.struct gAlterPartitionRequestTopic.lay (some 18) 19) (fun y => .part (fillsW ft_AlterPartitionRequestTopic 0 y) y.U) (fun y => goksW ft_AlterPartitionRequestTopic 0 y /\ UOk y.U) := by
 refine make_top (z := .agg #[.string (str []), .int .u8 0, .int .u8 0, .int .u8 0, .int .u8 0, .int .u8 0, .int .u8 0, .int .u8 0, .int .u8 0, .int .u8 0, .int .u8 0, .int .u8 0, .int .u8 0, .int .u8 0, .int .u8 0, .int .u8 0, .int .u8 0, .slice none 0 0, .map none]) (T := 231) Try.func184 rfl rfl rfl (by decide) rfl (by decide) (by kernel_rfl) rfl (fun w F => ?_) rfl (by kernel_rfl) ?_
 ·exact Lay.zero_rep gAlterPartitionRequestTopic.lay _ (by repeat' (first | rfl | trivial | apply And.intro))
 ·refine rest_cons ?_ ?_
  ·exact fst_mono (fst_make (mids := [_, _]) (i := 0) (j := 0) (o := 0) (k := 0) (T := 231) (ty := .str) iat_C (by kernel_rfl) (by kernel_rfl) (val_text (eb := 5) (by kernel_rfl) (by kernel_rfl) (by kernel_rfl)) rfl (by kernel_rfl) (by kernel_rfl) (by kernel_rfl) (by kernel_rfl) (by kernel_rfl)) rfl (fun _ _ => fk_str (by decide)) (fun _ h => fo_text h)
  refine rest_cons ?_ ?_
  ·exact fst_mono (fst_make (mids := [_, _]) (i := 1) (j := 1) (o := 1) (k := 1) (T := 231) (ty := .uuid) iat_C (by kernel_rfl) (by kernel_rfl) (val_uuid (by kernel_rfl) sixteen_c (by kernel_rfl) (by kernel_rfl)) rfl (by kernel_rfl) (by kernel_rfl) (by kernel_rfl) (by kernel_rfl) (by kernel_rfl)) rfl (fun _ _ => fk_uuid) (fun _ h => trivial)
  refine rest_cons ?_ ?_
  ·exact fst_mono (fst_list (i := 2) (j := 2) (o := 17) (e := 237) (sz := 7) (ety := .struct (.cons 0 (.int .i32) (.cons 1 (.int .i32) (.cons 2 (.list (.int .i32) 1) (.cons 3 (.list (.struct (.cons 0 (.int .i32) (.cons 1 (.int .i64) .nil)) (some 2) 3) 3) (.cons 4 (.int .i8) (.cons 5 (.int .i32) .nil)))))) (some 6) 7) iat_C (by kernel_rfl) (by kernel_rfl) (by kernel_rfl) (by kernel_rfl) (by kernel_rfl) rfl (by kernel_rfl) rfl (mk_make (T := 231) (k := 2) iat_C (by kernel_rfl) (by kernel_rfl) (by kernel_rfl) (by kernel_rfl) rfl (by kernel_rfl) (by kernel_rfl) (by kernel_rfl) rfl (by kernel_rfl) (by kernel_rfl) (by kernel_rfl)) (app_make (T := 231) (k := 2) (by kernel_rfl) (by kernel_rfl) mk_AlterPartitionRequestTopicPartition (by kernel_rfl) (by kernel_rfl) (by kernel_rfl) (by kernel_rfl) (by kernel_rfl) (by kernel_rfl) (by kernel_rfl) rfl (by kernel_rfl)) (by kernel_rfl) rfl rfl (by kernel_rfl) (by kernel_rfl)) (by simp [zeroW]) (fun _ _ => fk_list) (fun _ h => fo_list h)
  refine rest_ret (T := 231) rfl ?_ rfl (by kernel_rfl) (by kernel_rfl) (by kernel_rfl) (by kernel_rfl) rfl (by kernel_rfl)
  exact tags_set rfl (by kernel_rfl) (by kernel_rfl) (by kernel_rfl) rfl (by kernel_rfl) (by kernel_rfl) (by kernel_rfl) (tag_make (T := 231) (kt := 3) (TG := 64) setTag_spec (by kernel_rfl) (by kernel_rfl) (by kernel_rfl) (by kernel_rfl) (by kernel_rfl) (by kernel_rfl) (by kernel_rfl) (by kernel_rfl)) (by kernel_rfl)
abbrev gAlterPartitionRequest : St := ⟨0, .cons 0 (.int .i16) (.cons 1 (.int .i32) (.cons 2 (.int .i64) (.cons 3 (.list (.struct (.cons 0 .str (.cons 1 .uuid (.cons 17 (.list (.struct (.cons 0 (.int .i32) (.cons 1 (.int .i32) (.cons 2 (.list (.int .i32) 1) (.cons 3 (.list (.struct (.cons 0 (.int .i32) (.cons 1 (.int .i64) .nil)) (some 2) 3) 3) (.cons 4 (.int .i8) (.cons 5 (.int .i32) .nil)))))) (some 6) 7) 7) .nil))) (some 18) 19) 19) .nil))), none, 5⟩
set_option maxRecDepth 100000 in
theorem fill_AlterPartitionRequest : FillC Try.prog 119 gAlterPartitionRequest 4 Zg := by
 refine fill_top Try.func119 rfl rfl rfl (by decide) rfl (by decide) ?_
 refine rest_cons ?_ ?_
 ·exact fst_mono (fst_fill (mids := [_, _]) (i := 1) (j := 0) (o := 1) (k := 1) (T := 126) (ty := .int .i32) iat_C (by kernel_rfl) (by kernel_rfl) (val_num (kd := .i32) (by kernel_rfl) (by kernel_rfl) (by kernel_rfl) (by kernel_rfl)) rfl (by kernel_rfl) (by kernel_rfl) (by kernel_rfl) (by kernel_rfl) (by kernel_rfl)) rfl (fun _ _ => fk_i32) (fun _ h => trivial)
 refine rest_cons ?_ ?_
 ·exact fst_mono (fst_fill (mids := [_]) (i := 2) (j := 1) (o := 2) (k := 2) (T := 126) (ty := .int .i64) iat_C (by kernel_rfl) (by kernel_rfl) (val_i64 (by kernel_rfl) (by kernel_rfl)) rfl (by kernel_rfl) (by kernel_rfl) (by kernel_rfl) (by kernel_rfl) (by kernel_rfl)) rfl (fun _ _ => fk_i64) (fun _ h => trivial)
 refine rest_cons ?_ ?_
 ·exact fst_mono (fst_list (i := 3) (j := 2) (o := 3) (e := 231) (sz := 19) (ety := .struct (.cons 0 .str (.cons 1 .uuid (.cons 17 (.list (.struct (.cons 0 (.int .i32) (.cons 1 (.int .i32) (.cons 2 (.list (.int .i32) 1) (.cons 3 (.list (.struct (.cons 0 (.int .i32) (.cons 1 (.int .i64) .nil)) (some 2) 3) 3) (.cons 4 (.int .i8) (.cons 5 (.int .i32) .nil)))))) (some 6) 7) 7) .nil))) (some 18) 19) iat_C (by kernel_rfl) (by kernel_rfl) (by kernel_rfl) (by kernel_rfl) (by kernel_rfl) rfl (by kernel_rfl) rfl (mk_fill (T := 126) (k := 3) iat_C (by kernel_rfl) (by kernel_rfl) (by kernel_rfl) (by kernel_rfl) rfl (by kernel_rfl) (by kernel_rfl) (by kernel_rfl) rfl (by kernel_rfl) (by kernel_rfl) (by kernel_rfl)) (app_fill (T := 126) (k := 3) (by kernel_rfl) (by kernel_rfl) mk_AlterPartitionRequestTopic (by kernel_rfl) (by kernel_rfl) (by kernel_rfl) (by kernel_rfl) (by kernel_rfl) (by kernel_rfl) (by kernel_rfl) rfl (by kernel_rfl)) (by kernel_rfl) rfl rfl (by kernel_rfl) (by kernel_rfl)) (by simp [zeroW]) (fun _ _ => fk_list) (fun _ h => fo_list h)
 refine rest_tags rfl ?_
 exact tags_set rfl (by kernel_rfl) (by kernel_rfl) (by kernel_rfl) rfl (by kernel_rfl) (by kernel_rfl) (by kernel_rfl) (tag_fill (T := 126) (kt := 4) (TG := 64) (by kernel_rfl) setTag_spec (by kernel_rfl) (by kernel_rfl) (by kernel_rfl) (by kernel_rfl) (by kernel_rfl) (by kernel_rfl) (by kernel_rfl) (by kernel_rfl)) (by kernel_rfl)
theorem set_AlterPartitionRequest : SetC Try.prog 118 { gAlterPartitionRequest with tg := some 4 } :=
 set_rule Try.func118 rfl rfl rfl (by kernel_rfl) (by kernel_rfl) rfl rfl rfl (by decide)
theorem make_AlterPartitionRequest : MakeC Try.prog 49 Zf Zk Zg := by
 refine make_rule (σ := gAlterPartitionRequest) (σa := aAlterPartitionRequest) (ot := 4) (zc := #[.int .i16 0, .int .i32 0, .int .i64 0, .slice none 0 0, .map none]) Try.func49 rfl rfl rfl (by kernel_rfl) (by kernel_rfl) (by kernel_rfl) (by kernel_rfl) (by kernel_rfl) (by kernel_rfl) (by kernel_rfl) (by decide) (fun w F => ?_) rfl set_AlterPartitionRequest fill_AlterPartitionRequest app_AlterPartitionRequest rfl rfl rfl
 exact Lay.zero_rep gAlterPartitionRequest.lay _ (by repeat' (first | rfl | trivial | apply And.intro))
end Go.Proofs.Ytmehfgiadapekaa
