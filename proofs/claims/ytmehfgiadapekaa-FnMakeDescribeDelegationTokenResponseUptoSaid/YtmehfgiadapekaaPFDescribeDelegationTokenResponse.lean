/-
  DescribeDelegationTokenResponse: AppendTo.
  DescribeDelegationTokenResponse: its fields are set.
-/
import Derived.Test.YtmehfgiadapekaaPZd
import Derived.Test.YtmehfgiadapekaaPZx
set_option linter.unusedSimpArgs false
set_option linter.unusedVariables false
namespace Go.Proofs.Ytmehfgiadapekaa
open Go Go.RowKit
abbrev Zg : List FD := [.mk 2 0 (-1) (-1) (-1) 0 0 [], .mk 11 0 (-1) (-1) (-1) 0 10 [.mk 8 0 (-1) (-1) (-1) 0 0 [], .mk 8 0 (-1) (-1) (-1) 0 0 [], .mk 8 3 (-1) (-1) (-1) 0 0 [], .mk 8 3 (-1) (-1) (-1) 0 0 [], .mk 4 0 (-1) (-1) (-1) 0 0 [], .mk 4 0 (-1) (-1) (-1) 0 0 [], .mk 4 0 (-1) (-1) (-1) 0 0 [], .mk 8 0 (-1) (-1) (-1) 0 0 [], .mk 9 0 (-1) (-1) (-1) 0 0 [], .mk 11 0 (-1) (-1) (-1) 0 10 [.mk 8 0 (-1) (-1) (-1) 0 0 [], .mk 8 0 (-1) (-1) (-1) 0 0 []]], .mk 3 0 (-1) (-1) (-1) 0 0 []]
abbrev Zf : Int -> Bool := fun ver => decide ((2 : Int) <= ver)
abbrev Zk : OkV := fun ver fl => 0 <= ver /\ ver <= 3 /\ fl = Zf ver
abbrev aDescribeDelegationTokenResponse : St := ⟨0, .cons 0 (.int .i16) (.cons 1 (.int .i16) (.cons 2 (.list (.struct (.cons 0 .str (.cons 1 .str (.cons 2 .str (.cons 3 .str (.cons 4 (.int .i64) (.cons 5 (.int .i64) (.cons 6 (.int .i64) (.cons 7 .str (.cons 8 .bytes (.cons 9 (.list (.struct (.cons 0 .str (.cons 1 .str .nil)) (some 2) 3) 3) .nil)))))))))) (some 10) 11) 11) (.cons 3 (.int .i32) .nil))), some 4, 5⟩
abbrev aDescribeDelegationTokenResponse_1 : St := ⟨10, .cons 0 .str (.cons 1 .str (.cons 2 .str (.cons 3 .str (.cons 4 (.int .i64) (.cons 5 (.int .i64) (.cons 6 (.int .i64) (.cons 7 .str (.cons 8 .bytes (.cons 9 (.list (.struct (.cons 0 .str (.cons 1 .str .nil)) (some 2) 3) 3) .nil))))))))), some 10, 11⟩
abbrev aDescribeDelegationTokenResponse_2 : St := ⟨22, .cons 0 .str (.cons 1 .str .nil), some 2, 3⟩
set_option maxRecDepth 100000 in
theorem app_DescribeDelegationTokenResponse : AppToC Try.prog 114 aDescribeDelegationTokenResponse (fun ver => decide ((2 : Int) <= ver)) Zk Zg := by
 refine app_top (m := 26) (N := 248) Try.func114 rfl rfl (by kernel_rfl) (by kernel_rfl) rfl rfl (by decide) (by decide) rfl ?_
 refine emitw_fields (σ := aDescribeDelegationTokenResponse) (i := 1) rfl ?_ ?_ (by rfl)
 ·refine emit_had (σ := aDescribeDelegationTokenResponse) (i := 1) (E := fun _ fl x => leafE 2 (-1) fl x) ?_ (by intro v l h; simp [Zk, Zf] at h; exact hadW_of (by decide) (by omega) (by omega)) (fun v l t _ => by simp [encW])
  refine emit_leaf (σ := aDescribeDelegationTokenResponse) (i := 1) (o := 1) (ty := .int .i16) ?_ (by rfl) (by kernel_rfl) (by kernel_rfl) rfl rfl
  refine emit_call (av_i16 (null := (-1)) (fl := true)) (by kernel_rfl) (by rfl) (fun v l t h => by first | rfl | (obtain ⟨_, h⟩ := h; have h : l = true := h; subst h; rfl) | (obtain ⟨_, h⟩ := h; have h : l = false := h; subst h; rfl))
 ·refine emitw_fields (σ := aDescribeDelegationTokenResponse) (i := 2) rfl ?_ ?_ (by rfl)
  ·refine emit_had (σ := aDescribeDelegationTokenResponse) (i := 2) (E := listE false (structW ([.mk 8 0 (-1) (-1) (-1) 0 0 [], .mk 8 0 (-1) (-1) (-1) 0 0 [], .mk 8 3 (-1) (-1) (-1) 0 0 [], .mk 8 3 (-1) (-1) (-1) 0 0 [], .mk 4 0 (-1) (-1) (-1) 0 0 [], .mk 4 0 (-1) (-1) (-1) 0 0 [], .mk 4 0 (-1) (-1) (-1) 0 0 [], .mk 8 0 (-1) (-1) (-1) 0 0 [], .mk 9 0 (-1) (-1) (-1) 0 0 [], .mk 11 0 (-1) (-1) (-1) 0 10 [.mk 8 0 (-1) (-1) (-1) 0 0 [], .mk 8 0 (-1) (-1) (-1) 0 0 []]]))) ?_ (by intro v l h; simp [Zk, Zf] at h; exact hadW_of (by decide) (by omega) (by omega)) (fun v l t _ => by simp [encW, listE] <;> rfl)
   refine emit_leaf (σ := aDescribeDelegationTokenResponse) (i := 2) (o := 2) (ty := .list (.struct (.cons 0 .str (.cons 1 .str (.cons 2 .str (.cons 3 .str (.cons 4 (.int .i64) (.cons 5 (.int .i64) (.cons 6 (.int .i64) (.cons 7 .str (.cons 8 .bytes (.cons 9 (.list (.struct (.cons 0 .str (.cons 1 .str .nil)) (some 2) 3) 3) .nil)))))))))) (some 10) 11) 11) ?_ (by rfl) (by kernel_rfl) (by kernel_rfl) rfl rfl
   refine emit_list ?_ ?_ (by rfl)
   ·refine emit_cond (rs := [_]) (tstw_flex (by rfl)) ?_ ?_ preC_stable (by rfl)
    ·refine emit_cnt ct_calen (by kernel_rfl) (by kernel_rfl) rfl (by rfl) (fun v l h => h.2)
    ·refine emit_cnt ct_alen (by kernel_rfl) (by kernel_rfl) rfl (by rfl) (fun v l h => h.2)
   ·refine emit_loop ?_ (by kernel_rfl) rfl (by rfl)
    refine emit_els (σe := aDescribeDelegationTokenResponse_1) ?_ (by kernel_rfl) rfl (by rfl) (by rfl)
    refine emit_fields (σ := aDescribeDelegationTokenResponse_1) (i := 0) rfl ?_ ?_ (by rfl)
    ·refine emit_had (σ := aDescribeDelegationTokenResponse_1) (i := 0) (E := fun _ fl x => leafE 8 (-1) fl x) ?_ (by intro v l h; simp [Zk, Zf] at h; exact hadW_of (by decide) (by omega) (by omega)) (fun v l t _ => by simp [encW])
     refine emit_leaf (σ := aDescribeDelegationTokenResponse_1) (i := 0) (o := 0) (ty := .str) ?_ (by rfl) (by kernel_rfl) (by kernel_rfl) rfl rfl
     refine emit_cond (rs := [_]) (tstw_flex (by rfl)) ?_ ?_ preV_stable (by rfl)
     ·refine emit_call (av_cstr (null := (-1)) (by decide)) (by kernel_rfl) (by rfl) (fun v l t h => by first | rfl | (obtain ⟨_, h⟩ := h; have h : l = true := h; subst h; rfl) | (obtain ⟨_, h⟩ := h; have h : l = false := h; subst h; rfl))
     ·refine emit_call (av_str (null := (-1)) (by decide)) (by kernel_rfl) (by rfl) (fun v l t h => by first | rfl | (obtain ⟨_, h⟩ := h; have h : l = true := h; subst h; rfl) | (obtain ⟨_, h⟩ := h; have h : l = false := h; subst h; rfl))
    ·refine emit_fields (σ := aDescribeDelegationTokenResponse_1) (i := 1) rfl ?_ ?_ (by rfl)
     ·refine emit_had (σ := aDescribeDelegationTokenResponse_1) (i := 1) (E := fun _ fl x => leafE 8 (-1) fl x) ?_ (by intro v l h; simp [Zk, Zf] at h; exact hadW_of (by decide) (by omega) (by omega)) (fun v l t _ => by simp [encW])
      refine emit_leaf (σ := aDescribeDelegationTokenResponse_1) (i := 1) (o := 1) (ty := .str) ?_ (by rfl) (by kernel_rfl) (by kernel_rfl) rfl rfl
      refine emit_cond (rs := [_]) (tstw_flex (by rfl)) ?_ ?_ preV_stable (by rfl)
      ·refine emit_call (av_cstr (null := (-1)) (by decide)) (by kernel_rfl) (by rfl) (fun v l t h => by first | rfl | (obtain ⟨_, h⟩ := h; have h : l = true := h; subst h; rfl) | (obtain ⟨_, h⟩ := h; have h : l = false := h; subst h; rfl))
      ·refine emit_call (av_str (null := (-1)) (by decide)) (by kernel_rfl) (by rfl) (fun v l t h => by first | rfl | (obtain ⟨_, h⟩ := h; have h : l = true := h; subst h; rfl) | (obtain ⟨_, h⟩ := h; have h : l = false := h; subst h; rfl))
     ·refine emit_fields (σ := aDescribeDelegationTokenResponse_1) (i := 2) rfl ?_ ?_ (by rfl)
      ·refine emit_cond (rs := [10]) (tstw_geq (by rfl)) ?_ ?_ (preH_stable (σ := aDescribeDelegationTokenResponse_1) (i := 2)) (by rfl)
       ·refine emit_had (σ := aDescribeDelegationTokenResponse_1) (i := 2) (E := fun _ fl x => leafE 8 (-1) fl x) ?_ (by intro v l h; simp [Zk, Zf] at h; exact hadW_of (by decide) (by omega) (by omega)) (fun v l t _ => by simp [encW])
        refine emit_leaf (σ := aDescribeDelegationTokenResponse_1) (i := 2) (o := 2) (ty := .str) ?_ (by rfl) (by kernel_rfl) (by kernel_rfl) rfl rfl
        refine emit_cond (rs := [_]) (tstw_flex (by rfl)) ?_ ?_ preV_stable (by rfl)
        ·refine emit_call (av_cstr (null := (-1)) (by decide)) (by kernel_rfl) (by rfl) (fun v l t h => by first | rfl | (obtain ⟨_, h⟩ := h; have h : l = true := h; subst h; rfl) | (obtain ⟨_, h⟩ := h; have h : l = false := h; subst h; rfl))
        ·refine emit_call (av_str (null := (-1)) (by decide)) (by kernel_rfl) (by rfl) (fun v l t h => by first | rfl | (obtain ⟨_, h⟩ := h; have h : l = true := h; subst h; rfl) | (obtain ⟨_, h⟩ := h; have h : l = false := h; subst h; rfl))
       ·exact emit_lacks (by intro v l h; simp [Zk, Zf] at h; exact hadW_not (by omega))
      ·refine emit_fields (σ := aDescribeDelegationTokenResponse_1) (i := 3) rfl ?_ ?_ (by rfl)
       ·refine emit_cond (rs := [10]) (tstw_geq (by rfl)) ?_ ?_ (preH_stable (σ := aDescribeDelegationTokenResponse_1) (i := 3)) (by rfl)
        ·refine emit_had (σ := aDescribeDelegationTokenResponse_1) (i := 3) (E := fun _ fl x => leafE 8 (-1) fl x) ?_ (by intro v l h; simp [Zk, Zf] at h; exact hadW_of (by decide) (by omega) (by omega)) (fun v l t _ => by simp [encW])
         refine emit_leaf (σ := aDescribeDelegationTokenResponse_1) (i := 3) (o := 3) (ty := .str) ?_ (by rfl) (by kernel_rfl) (by kernel_rfl) rfl rfl
         refine emit_cond (rs := [_]) (tstw_flex (by rfl)) ?_ ?_ preV_stable (by rfl)
         ·refine emit_call (av_cstr (null := (-1)) (by decide)) (by kernel_rfl) (by rfl) (fun v l t h => by first | rfl | (obtain ⟨_, h⟩ := h; have h : l = true := h; subst h; rfl) | (obtain ⟨_, h⟩ := h; have h : l = false := h; subst h; rfl))
         ·refine emit_call (av_str (null := (-1)) (by decide)) (by kernel_rfl) (by rfl) (fun v l t h => by first | rfl | (obtain ⟨_, h⟩ := h; have h : l = true := h; subst h; rfl) | (obtain ⟨_, h⟩ := h; have h : l = false := h; subst h; rfl))
        ·exact emit_lacks (by intro v l h; simp [Zk, Zf] at h; exact hadW_not (by omega))
       ·refine emit_fields (σ := aDescribeDelegationTokenResponse_1) (i := 4) rfl ?_ ?_ (by rfl)
        ·refine emit_had (σ := aDescribeDelegationTokenResponse_1) (i := 4) (E := fun _ fl x => leafE 4 (-1) fl x) ?_ (by intro v l h; simp [Zk, Zf] at h; exact hadW_of (by decide) (by omega) (by omega)) (fun v l t _ => by simp [encW])
         refine emit_leaf (σ := aDescribeDelegationTokenResponse_1) (i := 4) (o := 4) (ty := .int .i64) ?_ (by rfl) (by kernel_rfl) (by kernel_rfl) rfl rfl
         refine emit_call (av_i64 (null := (-1)) (fl := true)) (by kernel_rfl) (by rfl) (fun v l t h => by first | rfl | (obtain ⟨_, h⟩ := h; have h : l = true := h; subst h; rfl) | (obtain ⟨_, h⟩ := h; have h : l = false := h; subst h; rfl))
        ·refine emit_fields (σ := aDescribeDelegationTokenResponse_1) (i := 5) rfl ?_ ?_ (by rfl)
         ·refine emit_had (σ := aDescribeDelegationTokenResponse_1) (i := 5) (E := fun _ fl x => leafE 4 (-1) fl x) ?_ (by intro v l h; simp [Zk, Zf] at h; exact hadW_of (by decide) (by omega) (by omega)) (fun v l t _ => by simp [encW])
          refine emit_leaf (σ := aDescribeDelegationTokenResponse_1) (i := 5) (o := 5) (ty := .int .i64) ?_ (by rfl) (by kernel_rfl) (by kernel_rfl) rfl rfl
          refine emit_call (av_i64 (null := (-1)) (fl := true)) (by kernel_rfl) (by rfl) (fun v l t h => by first | rfl | (obtain ⟨_, h⟩ := h; have h : l = true := h; subst h; rfl) | (obtain ⟨_, h⟩ := h; have h : l = false := h; subst h; rfl))
         ·refine emit_fields (σ := aDescribeDelegationTokenResponse_1) (i := 6) rfl ?_ ?_ (by rfl)
          ·refine emit_had (σ := aDescribeDelegationTokenResponse_1) (i := 6) (E := fun _ fl x => leafE 4 (-1) fl x) ?_ (by intro v l h; simp [Zk, Zf] at h; exact hadW_of (by decide) (by omega) (by omega)) (fun v l t _ => by simp [encW])
           refine emit_leaf (σ := aDescribeDelegationTokenResponse_1) (i := 6) (o := 6) (ty := .int .i64) ?_ (by rfl) (by kernel_rfl) (by kernel_rfl) rfl rfl
           refine emit_call (av_i64 (null := (-1)) (fl := true)) (by kernel_rfl) (by rfl) (fun v l t h => by first | rfl | (obtain ⟨_, h⟩ := h; have h : l = true := h; subst h; rfl) | (obtain ⟨_, h⟩ := h; have h : l = false := h; subst h; rfl))
          ·refine emit_fields (σ := aDescribeDelegationTokenResponse_1) (i := 7) rfl ?_ ?_ (by rfl)
           ·refine emit_had (σ := aDescribeDelegationTokenResponse_1) (i := 7) (E := fun _ fl x => leafE 8 (-1) fl x) ?_ (by intro v l h; simp [Zk, Zf] at h; exact hadW_of (by decide) (by omega) (by omega)) (fun v l t _ => by simp [encW])
            refine emit_leaf (σ := aDescribeDelegationTokenResponse_1) (i := 7) (o := 7) (ty := .str) ?_ (by rfl) (by kernel_rfl) (by kernel_rfl) rfl rfl
            refine emit_cond (rs := [_]) (tstw_flex (by rfl)) ?_ ?_ preV_stable (by rfl)
            ·refine emit_call (av_cstr (null := (-1)) (by decide)) (by kernel_rfl) (by rfl) (fun v l t h => by first | rfl | (obtain ⟨_, h⟩ := h; have h : l = true := h; subst h; rfl) | (obtain ⟨_, h⟩ := h; have h : l = false := h; subst h; rfl))
            ·refine emit_call (av_str (null := (-1)) (by decide)) (by kernel_rfl) (by rfl) (fun v l t h => by first | rfl | (obtain ⟨_, h⟩ := h; have h : l = true := h; subst h; rfl) | (obtain ⟨_, h⟩ := h; have h : l = false := h; subst h; rfl))
           ·refine emit_fields (σ := aDescribeDelegationTokenResponse_1) (i := 8) rfl ?_ ?_ (by rfl)
            ·refine emit_had (σ := aDescribeDelegationTokenResponse_1) (i := 8) (E := fun _ fl x => leafE 9 (-1) fl x) ?_ (by intro v l h; simp [Zk, Zf] at h; exact hadW_of (by decide) (by omega) (by omega)) (fun v l t _ => by simp [encW])
             refine emit_leaf (σ := aDescribeDelegationTokenResponse_1) (i := 8) (o := 8) (ty := .bytes) ?_ (by rfl) (by kernel_rfl) (by kernel_rfl) rfl rfl
             refine emit_cond (rs := [_]) (tstw_flex (by rfl)) ?_ ?_ preV_stable (by rfl)
             ·refine emit_call (av_cbytes (null := (-1)) (by decide)) (by kernel_rfl) (by rfl) (fun v l t h => by first | rfl | (obtain ⟨_, h⟩ := h; have h : l = true := h; subst h; rfl) | (obtain ⟨_, h⟩ := h; have h : l = false := h; subst h; rfl))
             ·refine emit_call (av_bytes (null := (-1)) (by decide)) (by kernel_rfl) (by rfl) (fun v l t h => by first | rfl | (obtain ⟨_, h⟩ := h; have h : l = true := h; subst h; rfl) | (obtain ⟨_, h⟩ := h; have h : l = false := h; subst h; rfl))
            ·refine emit_fields (σ := aDescribeDelegationTokenResponse_1) (i := 9) rfl ?_ ?_ (by rfl)
             ·refine emit_had (σ := aDescribeDelegationTokenResponse_1) (i := 9) (E := listE false (structW ([.mk 8 0 (-1) (-1) (-1) 0 0 [], .mk 8 0 (-1) (-1) (-1) 0 0 []]))) ?_ (by intro v l h; simp [Zk, Zf] at h; exact hadW_of (by decide) (by omega) (by omega)) (fun v l t _ => by simp [encW, listE] <;> rfl)
              refine emit_leaf (σ := aDescribeDelegationTokenResponse_1) (i := 9) (o := 9) (ty := .list (.struct (.cons 0 .str (.cons 1 .str .nil)) (some 2) 3) 3) ?_ (by rfl) (by kernel_rfl) (by kernel_rfl) rfl rfl
              refine emit_list ?_ ?_ (by rfl)
              ·refine emit_cond (rs := [_]) (tstw_flex (by rfl)) ?_ ?_ preC_stable (by rfl)
               ·refine emit_cnt ct_calen (by kernel_rfl) (by kernel_rfl) rfl (by rfl) (fun v l h => h.2)
               ·refine emit_cnt ct_alen (by kernel_rfl) (by kernel_rfl) rfl (by rfl) (fun v l h => h.2)
              ·refine emit_loop ?_ (by kernel_rfl) rfl (by rfl)
               refine emit_els (σe := aDescribeDelegationTokenResponse_2) ?_ (by kernel_rfl) rfl (by rfl) (by rfl)
               refine emit_fields (σ := aDescribeDelegationTokenResponse_2) (i := 0) rfl ?_ ?_ (by rfl)
               ·refine emit_had (σ := aDescribeDelegationTokenResponse_2) (i := 0) (E := fun _ fl x => leafE 8 (-1) fl x) ?_ (by intro v l h; simp [Zk, Zf] at h; exact hadW_of (by decide) (by omega) (by omega)) (fun v l t _ => by simp [encW])
                refine emit_leaf (σ := aDescribeDelegationTokenResponse_2) (i := 0) (o := 0) (ty := .str) ?_ (by rfl) (by kernel_rfl) (by kernel_rfl) rfl rfl
                refine emit_cond (rs := [_]) (tstw_flex (by rfl)) ?_ ?_ preV_stable (by rfl)
                ·refine emit_call (av_cstr (null := (-1)) (by decide)) (by kernel_rfl) (by rfl) (fun v l t h => by first | rfl | (obtain ⟨_, h⟩ := h; have h : l = true := h; subst h; rfl) | (obtain ⟨_, h⟩ := h; have h : l = false := h; subst h; rfl))
                ·refine emit_call (av_str (null := (-1)) (by decide)) (by kernel_rfl) (by rfl) (fun v l t h => by first | rfl | (obtain ⟨_, h⟩ := h; have h : l = true := h; subst h; rfl) | (obtain ⟨_, h⟩ := h; have h : l = false := h; subst h; rfl))
               ·refine emit_fields (σ := aDescribeDelegationTokenResponse_2) (i := 1) rfl ?_ ?_ (by rfl)
                ·refine emit_had (σ := aDescribeDelegationTokenResponse_2) (i := 1) (E := fun _ fl x => leafE 8 (-1) fl x) ?_ (by intro v l h; simp [Zk, Zf] at h; exact hadW_of (by decide) (by omega) (by omega)) (fun v l t _ => by simp [encW])
                 refine emit_leaf (σ := aDescribeDelegationTokenResponse_2) (i := 1) (o := 1) (ty := .str) ?_ (by rfl) (by kernel_rfl) (by kernel_rfl) rfl rfl
                 refine emit_cond (rs := [_]) (tstw_flex (by rfl)) ?_ ?_ preV_stable (by rfl)
                 ·refine emit_call (av_cstr (null := (-1)) (by decide)) (by kernel_rfl) (by rfl) (fun v l t h => by first | rfl | (obtain ⟨_, h⟩ := h; have h : l = true := h; subst h; rfl) | (obtain ⟨_, h⟩ := h; have h : l = false := h; subst h; rfl))
                 ·refine emit_call (av_str (null := (-1)) (by decide)) (by kernel_rfl) (by rfl) (fun v l t h => by first | rfl | (obtain ⟨_, h⟩ := h; have h : l = true := h; subst h; rfl) | (obtain ⟨_, h⟩ := h; have h : l = false := h; subst h; rfl))
                ·refine emit_tags ?_ ?_ (by rfl) (by rfl) (by rfl)
                 ·refine emit_tagn (σ := aDescribeDelegationTokenResponse_2) (o := 2) ?_ ?_ ?_ ?_ ?_ ?_ ?_ <;> first | rfl | decide | kernel_rfl
                 ·refine emit_tage (σ := aDescribeDelegationTokenResponse_2) (o := 2) ?_ ?_ ?_ ?_ ?_ <;> first | rfl | decide | kernel_rfl
             ·refine emit_tags ?_ ?_ (by rfl) (by rfl) (by rfl)
              ·refine emit_tagn (σ := aDescribeDelegationTokenResponse_1) (o := 10) ?_ ?_ ?_ ?_ ?_ ?_ ?_ <;> first | rfl | decide | kernel_rfl
              ·refine emit_tage (σ := aDescribeDelegationTokenResponse_1) (o := 10) ?_ ?_ ?_ ?_ ?_ <;> first | rfl | decide | kernel_rfl
  ·refine emitw_fields (σ := aDescribeDelegationTokenResponse) (i := 3) rfl ?_ ?_ (by rfl)
   ·refine emit_had (σ := aDescribeDelegationTokenResponse) (i := 3) (E := fun _ fl x => leafE 3 (-1) fl x) ?_ (by intro v l h; simp [Zk, Zf] at h; exact hadW_of (by decide) (by omega) (by omega)) (fun v l t _ => by simp [encW])
    refine emit_leaf (σ := aDescribeDelegationTokenResponse) (i := 3) (o := 3) (ty := .int .i32) ?_ (by rfl) (by kernel_rfl) (by kernel_rfl) rfl rfl
    refine emit_call (av_i32 (null := (-1)) (fl := true)) (by kernel_rfl) (by rfl) (fun v l t h => by first | rfl | (obtain ⟨_, h⟩ := h; have h : l = true := h; subst h; rfl) | (obtain ⟨_, h⟩ := h; have h : l = false := h; subst h; rfl))
   ·refine emitw_tags ?_ (emitw_end (by rfl))
    refine emit_tags ?_ ?_ (by rfl) (by rfl) (by rfl)
    ·refine emit_tagn (σ := aDescribeDelegationTokenResponse) (o := 4) ?_ ?_ ?_ ?_ ?_ ?_ ?_ <;> first | rfl | decide | kernel_rfl
    ·refine emit_tage (σ := aDescribeDelegationTokenResponse) (o := 4) ?_ ?_ ?_ ?_ ?_ <;> first | rfl | decide | kernel_rfl
end Go.Proofs.Ytmehfgiadapekaa
set_option linter.unusedSimpArgs false
set_option linter.unusedVariables false
namespace Go.Proofs.Ytmehfgiadapekaa
open Go Go.RowKit
abbrev gDescribeDelegationTokenResponseTokenDetailRenewer : St := ⟨0, .cons 0 .str (.cons 1 .str .nil), none, 3⟩
abbrev ft_DescribeDelegationTokenResponseTokenDetailRenewer : List FD := [.mk 8 0 (-1) (-1) (-1) 0 0 [], .mk 8 0 (-1) (-1) (-1) 0 0 []]
set_option maxRecDepth 100000 in
theorem mk_DescribeDelegationTokenResponseTokenDetailRenewer : ValC Try.prog 199 (.struct gDescribeDelegationTokenResponseTokenDetailRenewer.lay (some 2) 3) (fun y => .part (fillsW ft_DescribeDelegationTokenResponseTokenDetailRenewer 0 y) y.U) (fun y => goksW ft_DescribeDelegationTokenResponseTokenDetailRenewer 0 y /\ UOk y.U) := by
 refine make_top (z := .agg #[.string (str []), .string (str []), .map none]) (T := 228) Try.func199 rfl rfl rfl (by decide) rfl (by decide) (by kernel_rfl) rfl (fun w F => ?_) rfl (by kernel_rfl) ?_
 ·exact Lay.zero_rep gDescribeDelegationTokenResponseTokenDetailRenewer.lay _ (by repeat' (first | rfl | trivial | apply And.intro))
 ·refine rest_cons ?_ ?_
  ·exact fst_mono (fst_make (mids := [_, _]) (i := 0) (j := 0) (o := 0) (k := 0) (T := 228) (ty := .str) iat_C (by kernel_rfl) (by kernel_rfl) (val_text (eb := 5) (by kernel_rfl) (by kernel_rfl) (by kernel_rfl)) rfl (by kernel_rfl) (by kernel_rfl) (by kernel_rfl) (by kernel_rfl) (by kernel_rfl)) rfl (fun _ _ => fk_str (by decide)) (fun _ h => fo_text h)
  refine rest_cons ?_ ?_
  ·exact fst_mono (fst_make (mids := [_, _]) (i := 1) (j := 1) (o := 1) (k := 1) (T := 228) (ty := .str) iat_C (by kernel_rfl) (by kernel_rfl) (val_text (eb := 5) (by kernel_rfl) (by kernel_rfl) (by kernel_rfl)) rfl (by kernel_rfl) (by kernel_rfl) (by kernel_rfl) (by kernel_rfl) (by kernel_rfl)) rfl (fun _ _ => fk_str (by decide)) (fun _ h => fo_text h)
  refine rest_ret (T := 228) rfl ?_ rfl (by kernel_rfl) (by kernel_rfl) (by kernel_rfl) (by kernel_rfl) rfl (by kernel_rfl)
  exact tags_set rfl (by kernel_rfl) (by kernel_rfl) (by kernel_rfl) rfl (by kernel_rfl) (by kernel_rfl) (by kernel_rfl) (tag_make (T := 228) (kt := 2) (TG := 64) setTag_spec (by kernel_rfl) (by kernel_rfl) (by kernel_rfl) (by kernel_rfl) (by kernel_rfl) (by kernel_rfl) (by kernel_rfl) (by kernel_rfl)) (by kernel_rfl)
abbrev gDescribeDelegationTokenResponseTokenDetail : St := ⟨0, .cons 0 .str (.cons 1 .str (.cons 2 .str (.cons 3 .str (.cons 4 (.int .i64) (.cons 5 (.int .i64) (.cons 6 (.int .i64) (.cons 7 .str (.cons 8 .bytes (.cons 9 (.list (.struct (.cons 0 .str (.cons 1 .str .nil)) (some 2) 3) 3) .nil))))))))), none, 11⟩
abbrev ft_DescribeDelegationTokenResponseTokenDetail : List FD := [.mk 8 0 (-1) (-1) (-1) 0 0 [], .mk 8 0 (-1) (-1) (-1) 0 0 [], .mk 8 3 (-1) (-1) (-1) 0 0 [], .mk 8 3 (-1) (-1) (-1) 0 0 [], .mk 4 0 (-1) (-1) (-1) 0 0 [], .mk 4 0 (-1) (-1) (-1) 0 0 [], .mk 4 0 (-1) (-1) (-1) 0 0 [], .mk 8 0 (-1) (-1) (-1) 0 0 [], .mk 9 0 (-1) (-1) (-1) 0 0 [], .mk 11 0 (-1) (-1) (-1) 0 10 [.mk 8 0 (-1) (-1) (-1) 0 0 [], .mk 8 0 (-1) (-1) (-1) 0 0 []]]
set_option maxRecDepth 100000 in
theorem mk_DescribeDelegationTokenResponseTokenDetail : ValC Try.prog 181 (.struct gDescribeDelegationTokenResponseTokenDetail.lay (some 10) 11) (fun y => .part (fillsW ft_DescribeDelegationTokenResponseTokenDetail 0 y) y.U) (fun y => goksW ft_DescribeDelegationTokenResponseTokenDetail 0 y /\ UOk y.U) := by
 refine make_top (z := .agg #[.string (str []), .string (str []), .string (str []), .string (str []), .int .i64 0, .int .i64 0, .int .i64 0, .string (str []), .slice none 0 0, .slice none 0 0, .map none]) (T := 223) Try.func181 rfl rfl rfl (by decide) rfl (by decide) (by kernel_rfl) rfl (fun w F => ?_) rfl (by kernel_rfl) ?_
 ·exact Lay.zero_rep gDescribeDelegationTokenResponseTokenDetail.lay _ (by repeat' (first | rfl | trivial | apply And.intro))
 ·refine rest_cons ?_ ?_
  ·exact fst_mono (fst_make (mids := [_, _]) (i := 0) (j := 0) (o := 0) (k := 0) (T := 223) (ty := .str) iat_C (by kernel_rfl) (by kernel_rfl) (val_text (eb := 5) (by kernel_rfl) (by kernel_rfl) (by kernel_rfl)) rfl (by kernel_rfl) (by kernel_rfl) (by kernel_rfl) (by kernel_rfl) (by kernel_rfl)) rfl (fun _ _ => fk_str (by decide)) (fun _ h => fo_text h)
  refine rest_cons ?_ ?_
  ·exact fst_mono (fst_make (mids := [_, _]) (i := 1) (j := 1) (o := 1) (k := 1) (T := 223) (ty := .str) iat_C (by kernel_rfl) (by kernel_rfl) (val_text (eb := 5) (by kernel_rfl) (by kernel_rfl) (by kernel_rfl)) rfl (by kernel_rfl) (by kernel_rfl) (by kernel_rfl) (by kernel_rfl) (by kernel_rfl)) rfl (fun _ _ => fk_str (by decide)) (fun _ h => fo_text h)
  refine rest_cons ?_ ?_
  ·exact fst_mono (fst_make (mids := [_, _]) (i := 2) (j := 2) (o := 2) (k := 2) (T := 223) (ty := .str) iat_C (by kernel_rfl) (by kernel_rfl) (val_text (eb := 5) (by kernel_rfl) (by kernel_rfl) (by kernel_rfl)) rfl (by kernel_rfl) (by kernel_rfl) (by kernel_rfl) (by kernel_rfl) (by kernel_rfl)) rfl (fun _ _ => fk_str (by decide)) (fun _ h => fo_text h)
  refine rest_cons ?_ ?_
  ·exact fst_mono (fst_make (mids := [_, _]) (i := 3) (j := 3) (o := 3) (k := 3) (T := 223) (ty := .str) iat_C (by kernel_rfl) (by kernel_rfl) (val_text (eb := 5) (by kernel_rfl) (by kernel_rfl) (by kernel_rfl)) rfl (by kernel_rfl) (by kernel_rfl) (by kernel_rfl) (by kernel_rfl) (by kernel_rfl)) rfl (fun _ _ => fk_str (by decide)) (fun _ h => fo_text h)
  refine rest_cons ?_ ?_
  ·exact fst_mono (fst_make (mids := [_]) (i := 4) (j := 4) (o := 4) (k := 4) (T := 223) (ty := .int .i64) iat_C (by kernel_rfl) (by kernel_rfl) (val_i64 (by kernel_rfl) (by kernel_rfl)) rfl (by kernel_rfl) (by kernel_rfl) (by kernel_rfl) (by kernel_rfl) (by kernel_rfl)) rfl (fun _ _ => fk_i64) (fun _ h => trivial)
  refine rest_cons ?_ ?_
  ·exact fst_mono (fst_make (mids := [_]) (i := 5) (j := 5) (o := 5) (k := 5) (T := 223) (ty := .int .i64) iat_C (by kernel_rfl) (by kernel_rfl) (val_i64 (by kernel_rfl) (by kernel_rfl)) rfl (by kernel_rfl) (by kernel_rfl) (by kernel_rfl) (by kernel_rfl) (by kernel_rfl)) rfl (fun _ _ => fk_i64) (fun _ h => trivial)
  refine rest_cons ?_ ?_
  ·exact fst_mono (fst_make (mids := [_]) (i := 6) (j := 6) (o := 6) (k := 6) (T := 223) (ty := .int .i64) iat_C (by kernel_rfl) (by kernel_rfl) (val_i64 (by kernel_rfl) (by kernel_rfl)) rfl (by kernel_rfl) (by kernel_rfl) (by kernel_rfl) (by kernel_rfl) (by kernel_rfl)) rfl (fun _ _ => fk_i64) (fun _ h => trivial)
  refine rest_cons ?_ ?_
  ·exact fst_mono (fst_make (mids := [_, _]) (i := 7) (j := 7) (o := 7) (k := 7) (T := 223) (ty := .str) iat_C (by kernel_rfl) (by kernel_rfl) (val_text (eb := 5) (by kernel_rfl) (by kernel_rfl) (by kernel_rfl)) rfl (by kernel_rfl) (by kernel_rfl) (by kernel_rfl) (by kernel_rfl) (by kernel_rfl)) rfl (fun _ _ => fk_str (by decide)) (fun _ h => fo_text h)
  refine rest_cons ?_ ?_
  ·exact fst_mono (fst_make (mids := [_]) (i := 8) (j := 8) (o := 8) (k := 8) (T := 223) (ty := .bytes) iat_C (by kernel_rfl) (by kernel_rfl) (val_call octetsOf_c (by kernel_rfl) (by kernel_rfl)) rfl (by kernel_rfl) (by kernel_rfl) (by kernel_rfl) (by kernel_rfl) (by kernel_rfl)) rfl (fun _ _ => fk_bytes) (fun _ h => fo_bytes h)
  refine rest_cons ?_ ?_
  ·exact fst_mono (fst_list (i := 9) (j := 9) (o := 9) (e := 228) (sz := 3) (ety := .struct (.cons 0 .str (.cons 1 .str .nil)) (some 2) 3) iat_C (by kernel_rfl) (by kernel_rfl) (by kernel_rfl) (by kernel_rfl) (by kernel_rfl) rfl (by kernel_rfl) rfl (mk_make (T := 223) (k := 9) iat_C (by kernel_rfl) (by kernel_rfl) (by kernel_rfl) (by kernel_rfl) rfl (by kernel_rfl) (by kernel_rfl) (by kernel_rfl) rfl (by kernel_rfl) (by kernel_rfl) (by kernel_rfl)) (app_make (T := 223) (k := 9) (by kernel_rfl) (by kernel_rfl) mk_DescribeDelegationTokenResponseTokenDetailRenewer (by kernel_rfl) (by kernel_rfl) (by kernel_rfl) (by kernel_rfl) (by kernel_rfl) (by kernel_rfl) (by kernel_rfl) rfl (by kernel_rfl)) (by kernel_rfl) rfl rfl (by kernel_rfl) (by kernel_rfl)) (by simp [zeroW]) (fun _ _ => fk_list) (fun _ h => fo_list h)
  refine rest_ret (T := 223) rfl ?_ rfl (by kernel_rfl) (by kernel_rfl) (by kernel_rfl) (by kernel_rfl) rfl (by kernel_rfl)
  exact tags_set rfl (by kernel_rfl) (by kernel_rfl) (by kernel_rfl) rfl (by kernel_rfl) (by kernel_rfl) (by kernel_rfl) (tag_make (T := 223) (kt := 10) (TG := 64) setTag_spec (by kernel_rfl) (by kernel_rfl) (by kernel_rfl) (by kernel_rfl) (by kernel_rfl) (by kernel_rfl) (by kernel_rfl) (by kernel_rfl)) (by kernel_rfl)
abbrev gDescribeDelegationTokenResponse : St := ⟨0, .cons 0 (.int .i16) (.cons 1 (.int .i16) (.cons 2 (.list (.struct (.cons 0 .str (.cons 1 .str (.cons 2 .str (.cons 3 .str (.cons 4 (.int .i64) (.cons 5 (.int .i64) (.cons 6 (.int .i64) (.cons 7 .str (.cons 8 .bytes (.cons 9 (.list (.struct (.cons 0 .str (.cons 1 .str .nil)) (some 2) 3) 3) .nil)))))))))) (some 10) 11) 11) (.cons 3 (.int .i32) .nil))), none, 5⟩
set_option maxRecDepth 100000 in
theorem fill_DescribeDelegationTokenResponse : FillC Try.prog 113 gDescribeDelegationTokenResponse 4 Zg := by
 refine fill_top Try.func113 rfl rfl rfl (by decide) rfl (by decide) ?_
 refine rest_cons ?_ ?_
 ·exact fst_mono (fst_fill (mids := [_, _]) (i := 1) (j := 0) (o := 1) (k := 1) (T := 120) (ty := .int .i16) iat_C (by kernel_rfl) (by kernel_rfl) (val_num (kd := .i16) (by kernel_rfl) (by kernel_rfl) (by kernel_rfl) (by kernel_rfl)) rfl (by kernel_rfl) (by kernel_rfl) (by kernel_rfl) (by kernel_rfl) (by kernel_rfl)) rfl (fun _ _ => fk_i16) (fun _ h => trivial)
 refine rest_cons ?_ ?_
 ·exact fst_mono (fst_list (i := 2) (j := 1) (o := 2) (e := 223) (sz := 11) (ety := .struct (.cons 0 .str (.cons 1 .str (.cons 2 .str (.cons 3 .str (.cons 4 (.int .i64) (.cons 5 (.int .i64) (.cons 6 (.int .i64) (.cons 7 .str (.cons 8 .bytes (.cons 9 (.list (.struct (.cons 0 .str (.cons 1 .str .nil)) (some 2) 3) 3) .nil)))))))))) (some 10) 11) iat_C (by kernel_rfl) (by kernel_rfl) (by kernel_rfl) (by kernel_rfl) (by kernel_rfl) rfl (by kernel_rfl) rfl (mk_fill (T := 120) (k := 2) iat_C (by kernel_rfl) (by kernel_rfl) (by kernel_rfl) (by kernel_rfl) rfl (by kernel_rfl) (by kernel_rfl) (by kernel_rfl) rfl (by kernel_rfl) (by kernel_rfl) (by kernel_rfl)) (app_fill (T := 120) (k := 2) (by kernel_rfl) (by kernel_rfl) mk_DescribeDelegationTokenResponseTokenDetail (by kernel_rfl) (by kernel_rfl) (by kernel_rfl) (by kernel_rfl) (by kernel_rfl) (by kernel_rfl) (by kernel_rfl) rfl (by kernel_rfl)) (by kernel_rfl) rfl rfl (by kernel_rfl) (by kernel_rfl)) (by simp [zeroW]) (fun _ _ => fk_list) (fun _ h => fo_list h)
 refine rest_cons ?_ ?_
 ·exact fst_mono (fst_fill (mids := [_, _]) (i := 3) (j := 2) (o := 3) (k := 3) (T := 120) (ty := .int .i32) iat_C (by kernel_rfl) (by kernel_rfl) (val_num (kd := .i32) (by kernel_rfl) (by kernel_rfl) (by kernel_rfl) (by kernel_rfl)) rfl (by kernel_rfl) (by kernel_rfl) (by kernel_rfl) (by kernel_rfl) (by kernel_rfl)) rfl (fun _ _ => fk_i32) (fun _ h => trivial)
 refine rest_tags rfl ?_
 exact tags_set rfl (by kernel_rfl) (by kernel_rfl) (by kernel_rfl) rfl (by kernel_rfl) (by kernel_rfl) (by kernel_rfl) (tag_fill (T := 120) (kt := 4) (TG := 64) (by kernel_rfl) setTag_spec (by kernel_rfl) (by kernel_rfl) (by kernel_rfl) (by kernel_rfl) (by kernel_rfl) (by kernel_rfl) (by kernel_rfl) (by kernel_rfl)) (by kernel_rfl)
theorem set_DescribeDelegationTokenResponse : SetC Try.prog 112 { gDescribeDelegationTokenResponse with tg := some 4 } :=
 set_rule Try.func112 rfl rfl rfl (by kernel_rfl) (by kernel_rfl) rfl rfl rfl (by decide)
theorem make_DescribeDelegationTokenResponse : MakeC Try.prog 46 Zf Zk Zg := by
 refine make_rule (σ := gDescribeDelegationTokenResponse) (σa := aDescribeDelegationTokenResponse) (ot := 4) (zc := #[.int .i16 0, .int .i16 0, .slice none 0 0, .int .i32 0, .map none]) Try.func46 rfl rfl rfl (by kernel_rfl) (by kernel_rfl) (by kernel_rfl) (by kernel_rfl) (by kernel_rfl) (by kernel_rfl) (by kernel_rfl) (by decide) (fun w F => ?_) rfl set_DescribeDelegationTokenResponse fill_DescribeDelegationTokenResponse app_DescribeDelegationTokenResponse rfl rfl rfl
 exact Lay.zero_rep gDescribeDelegationTokenResponse.lay _ (by repeat' (first | rfl | trivial | apply And.intro))
end Go.Proofs.Ytmehfgiadapekaa
