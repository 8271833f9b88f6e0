/-
  UpdateRaftVoterRequest: AppendTo.
  UpdateRaftVoterRequest: its fields are set.
-/
import Derived.Test.YtmehfgiadapekaaPYu
import Derived.Test.YtmehfgiadapekaaPZd
import Derived.Test.YtmehfgiadapekaaPZx
set_option linter.unusedSimpArgs false
set_option linter.unusedVariables false
namespace Go.Proofs.Ytmehfgiadapekaa
open Go Go.RowKit
abbrev Zg : List FD := [.mk 8 0 (-1) 0 (-1) 0 0 [], .mk 3 0 (-1) (-1) (-1) 0 0 [], .mk 3 0 (-1) (-1) (-1) 0 0 [], .mk 7 0 (-1) (-1) (-1) 0 0 [], .mk 11 0 (-1) (-1) (-1) 0 10 [.mk 8 0 (-1) (-1) (-1) 0 0 [], .mk 8 0 (-1) (-1) (-1) 0 0 [], .mk 5 0 (-1) (-1) (-1) 0 0 []], .mk 10 0 (-1) (-1) (-1) 0 0 [.mk 2 0 (-1) (-1) (-1) 0 0 [], .mk 2 0 (-1) (-1) (-1) 0 0 []]]
abbrev Zf : Int -> Bool := fun ver => decide ((0 : Int) <= ver)
abbrev Zk : OkV := fun ver fl => 0 <= ver /\ ver <= 0 /\ fl = Zf ver
abbrev aUpdateRaftVoterRequest : St := ⟨0, .cons 0 (.int .i16) (.cons 1 .pstr (.cons 2 (.int .i32) (.cons 3 (.int .i32) (.cons 4 .uuid (.cons 20 (.list (.struct (.cons 0 .str (.cons 1 .str (.cons 2 (.int .u16) .nil))) (some 3) 4) 4) (.cons 21 (.struct (.cons 0 (.int .i16) (.cons 1 (.int .i16) .nil)) (some 2) 3) .nil)))))), some 24, 25⟩
abbrev aUpdateRaftVoterRequest_1 : St := ⟨13, .cons 0 .str (.cons 1 .str (.cons 2 (.int .u16) .nil)), some 3, 4⟩
abbrev aUpdateRaftVoterRequest_2 : St := ⟨17, .cons 0 (.int .i16) (.cons 1 (.int .i16) .nil), some 2, 3⟩
set_option maxRecDepth 100000 in
theorem app_UpdateRaftVoterRequest : AppToC Try.prog 83 aUpdateRaftVoterRequest (fun ver => decide ((0 : Int) <= ver)) Zk Zg := by
 refine app_top (m := 20) (N := 171) Try.func83 rfl rfl (by kernel_rfl) (by kernel_rfl) rfl rfl (by decide) (by decide) rfl ?_
 refine emitw_fields (σ := aUpdateRaftVoterRequest) (i := 1) rfl ?_ ?_ (by rfl)
 ·refine emit_had (σ := aUpdateRaftVoterRequest) (i := 1) (E := fun _ fl x => leafE 8 0 fl x) ?_ (by intro v l h; simp [Zk, Zf] at h; exact hadW_of (by decide) (by omega) (by omega)) (fun v l t _ => by simp [encW])
  refine emit_leaf (σ := aUpdateRaftVoterRequest) (i := 1) (o := 1) (ty := .pstr) ?_ (by rfl) (by kernel_rfl) (by kernel_rfl) rfl rfl
  refine emit_cond (rs := [_]) (tstw_flex (by rfl)) ?_ ?_ preV_stable (by rfl)
  ·refine emit_call (av_cnstr (null := 0) (by decide)) (by kernel_rfl) (by rfl) (fun v l t h => by first | rfl | (obtain ⟨_, h⟩ := h; have h : l = true := h; subst h; rfl) | (obtain ⟨_, h⟩ := h; have h : l = false := h; subst h; rfl))
  ·refine emit_call (av_nstr (null := 0) (by decide)) (by kernel_rfl) (by rfl) (fun v l t h => by first | rfl | (obtain ⟨_, h⟩ := h; have h : l = true := h; subst h; rfl) | (obtain ⟨_, h⟩ := h; have h : l = false := h; subst h; rfl))
 ·refine emitw_fields (σ := aUpdateRaftVoterRequest) (i := 2) rfl ?_ ?_ (by rfl)
  ·refine emit_had (σ := aUpdateRaftVoterRequest) (i := 2) (E := fun _ fl x => leafE 3 (-1) fl x) ?_ (by intro v l h; simp [Zk, Zf] at h; exact hadW_of (by decide) (by omega) (by omega)) (fun v l t _ => by simp [encW])
   refine emit_leaf (σ := aUpdateRaftVoterRequest) (i := 2) (o := 2) (ty := .int .i32) ?_ (by rfl) (by kernel_rfl) (by kernel_rfl) rfl rfl
   refine emit_call (av_i32 (null := (-1)) (fl := true)) (by kernel_rfl) (by rfl) (fun v l t h => by first | rfl | (obtain ⟨_, h⟩ := h; have h : l = true := h; subst h; rfl) | (obtain ⟨_, h⟩ := h; have h : l = false := h; subst h; rfl))
  ·refine emitw_fields (σ := aUpdateRaftVoterRequest) (i := 3) rfl ?_ ?_ (by rfl)
   ·refine emit_had (σ := aUpdateRaftVoterRequest) (i := 3) (E := fun _ fl x => leafE 3 (-1) fl x) ?_ (by intro v l h; simp [Zk, Zf] at h; exact hadW_of (by decide) (by omega) (by omega)) (fun v l t _ => by simp [encW])
    refine emit_leaf (σ := aUpdateRaftVoterRequest) (i := 3) (o := 3) (ty := .int .i32) ?_ (by rfl) (by kernel_rfl) (by kernel_rfl) rfl rfl
    refine emit_call (av_i32 (null := (-1)) (fl := true)) (by kernel_rfl) (by rfl) (fun v l t h => by first | rfl | (obtain ⟨_, h⟩ := h; have h : l = true := h; subst h; rfl) | (obtain ⟨_, h⟩ := h; have h : l = false := h; subst h; rfl))
   ·refine emitw_fields (σ := aUpdateRaftVoterRequest) (i := 4) rfl ?_ ?_ (by rfl)
    ·refine emit_had (σ := aUpdateRaftVoterRequest) (i := 4) (E := fun _ fl x => leafE 7 (-1) fl x) ?_ (by intro v l h; simp [Zk, Zf] at h; exact hadW_of (by decide) (by omega) (by omega)) (fun v l t _ => by simp [encW])
     exact emit_uuidb (σ := aUpdateRaftVoterRequest) (i := 4) (o := 4) (av_uuid (null := (-1)) (fl := true)) (by kernel_rfl) (fun v l t h => by first | rfl | (obtain ⟨_, h⟩ := h; have h : l = true := h; subst h; rfl) | (obtain ⟨_, h⟩ := h; have h : l = false := h; subst h; rfl)) (by rfl) (by kernel_rfl) (by kernel_rfl) rfl rfl (by kernel_rfl) rfl
    ·refine emitw_fields (σ := aUpdateRaftVoterRequest) (i := 5) rfl ?_ ?_ (by rfl)
     ·refine emit_had (σ := aUpdateRaftVoterRequest) (i := 5) (E := listE false (structW ([.mk 8 0 (-1) (-1) (-1) 0 0 [], .mk 8 0 (-1) (-1) (-1) 0 0 [], .mk 5 0 (-1) (-1) (-1) 0 0 []]))) ?_ (by intro v l h; simp [Zk, Zf] at h; exact hadW_of (by decide) (by omega) (by omega)) (fun v l t _ => by simp [encW, listE] <;> rfl)
      refine emit_leaf (σ := aUpdateRaftVoterRequest) (i := 5) (o := 20) (ty := .list (.struct (.cons 0 .str (.cons 1 .str (.cons 2 (.int .u16) .nil))) (some 3) 4) 4) ?_ (by rfl) (by kernel_rfl) (by kernel_rfl) rfl rfl
      refine emit_list ?_ ?_ (by rfl)
      ·refine emit_cond (rs := [_]) (tstw_flex (by rfl)) ?_ ?_ preC_stable (by rfl)
       ·refine emit_cnt ct_calen (by kernel_rfl) (by kernel_rfl) rfl (by rfl) (fun v l h => h.2)
       ·refine emit_cnt ct_alen (by kernel_rfl) (by kernel_rfl) rfl (by rfl) (fun v l h => h.2)
      ·refine emit_loop ?_ (by kernel_rfl) rfl (by rfl)
       refine emit_els (σe := aUpdateRaftVoterRequest_1) ?_ (by kernel_rfl) rfl (by rfl) (by rfl)
       refine emit_fields (σ := aUpdateRaftVoterRequest_1) (i := 0) rfl ?_ ?_ (by rfl)
       ·refine emit_had (σ := aUpdateRaftVoterRequest_1) (i := 0) (E := fun _ fl x => leafE 8 (-1) fl x) ?_ (by intro v l h; simp [Zk, Zf] at h; exact hadW_of (by decide) (by omega) (by omega)) (fun v l t _ => by simp [encW])
        refine emit_leaf (σ := aUpdateRaftVoterRequest_1) (i := 0) (o := 0) (ty := .str) ?_ (by rfl) (by kernel_rfl) (by kernel_rfl) rfl rfl
        refine emit_cond (rs := [_]) (tstw_flex (by rfl)) ?_ ?_ preV_stable (by rfl)
        ·refine emit_call (av_cstr (null := (-1)) (by decide)) (by kernel_rfl) (by rfl) (fun v l t h => by first | rfl | (obtain ⟨_, h⟩ := h; have h : l = true := h; subst h; rfl) | (obtain ⟨_, h⟩ := h; have h : l = false := h; subst h; rfl))
        ·refine emit_call (av_str (null := (-1)) (by decide)) (by kernel_rfl) (by rfl) (fun v l t h => by first | rfl | (obtain ⟨_, h⟩ := h; have h : l = true := h; subst h; rfl) | (obtain ⟨_, h⟩ := h; have h : l = false := h; subst h; rfl))
       ·refine emit_fields (σ := aUpdateRaftVoterRequest_1) (i := 1) rfl ?_ ?_ (by rfl)
        ·refine emit_had (σ := aUpdateRaftVoterRequest_1) (i := 1) (E := fun _ fl x => leafE 8 (-1) fl x) ?_ (by intro v l h; simp [Zk, Zf] at h; exact hadW_of (by decide) (by omega) (by omega)) (fun v l t _ => by simp [encW])
         refine emit_leaf (σ := aUpdateRaftVoterRequest_1) (i := 1) (o := 1) (ty := .str) ?_ (by rfl) (by kernel_rfl) (by kernel_rfl) rfl rfl
         refine emit_cond (rs := [_]) (tstw_flex (by rfl)) ?_ ?_ preV_stable (by rfl)
         ·refine emit_call (av_cstr (null := (-1)) (by decide)) (by kernel_rfl) (by rfl) (fun v l t h => by first | rfl | (obtain ⟨_, h⟩ := h; have h : l = true := h; subst h; rfl) | (obtain ⟨_, h⟩ := h; have h : l = false := h; subst h; rfl))
         ·refine emit_call (av_str (null := (-1)) (by decide)) (by kernel_rfl) (by rfl) (fun v l t h => by first | rfl | (obtain ⟨_, h⟩ := h; have h : l = true := h; subst h; rfl) | (obtain ⟨_, h⟩ := h; have h : l = false := h; subst h; rfl))
        ·refine emit_fields (σ := aUpdateRaftVoterRequest_1) (i := 2) rfl ?_ ?_ (by rfl)
         ·refine emit_had (σ := aUpdateRaftVoterRequest_1) (i := 2) (E := fun _ fl x => leafE 5 (-1) fl x) ?_ (by intro v l h; simp [Zk, Zf] at h; exact hadW_of (by decide) (by omega) (by omega)) (fun v l t _ => by simp [encW])
          refine emit_leaf (σ := aUpdateRaftVoterRequest_1) (i := 2) (o := 2) (ty := .int .u16) ?_ (by rfl) (by kernel_rfl) (by kernel_rfl) rfl rfl
          refine emit_call (av_u16 (null := (-1)) (fl := true)) (by kernel_rfl) (by rfl) (fun v l t h => by first | rfl | (obtain ⟨_, h⟩ := h; have h : l = true := h; subst h; rfl) | (obtain ⟨_, h⟩ := h; have h : l = false := h; subst h; rfl))
         ·refine emit_tags ?_ ?_ (by rfl) (by rfl) (by rfl)
          ·refine emit_tagn (σ := aUpdateRaftVoterRequest_1) (o := 3) ?_ ?_ ?_ ?_ ?_ ?_ ?_ <;> first | rfl | decide | kernel_rfl
          ·refine emit_tage (σ := aUpdateRaftVoterRequest_1) (o := 3) ?_ ?_ ?_ ?_ ?_ <;> first | rfl | decide | kernel_rfl
     ·refine emitw_fields (σ := aUpdateRaftVoterRequest) (i := 6) rfl ?_ ?_ (by rfl)
      ·refine emit_had (σ := aUpdateRaftVoterRequest) (i := 6) (E := structW ([.mk 2 0 (-1) (-1) (-1) 0 0 [], .mk 2 0 (-1) (-1) (-1) 0 0 []])) ?_ (by intro v l h; simp [Zk, Zf] at h; exact hadW_of (by decide) (by omega) (by omega)) (fun v l t _ => by simp [encW] <;> rfl)
       refine emit_sub (σ := aUpdateRaftVoterRequest) (σe := aUpdateRaftVoterRequest_2) (o := 21) ?_ (by rfl) (by kernel_rfl) rfl (by rfl)
       refine emit_fields (σ := aUpdateRaftVoterRequest_2) (i := 0) rfl ?_ ?_ (by rfl)
       ·refine emit_had (σ := aUpdateRaftVoterRequest_2) (i := 0) (E := fun _ fl x => leafE 2 (-1) fl x) ?_ (by intro v l h; simp [Zk, Zf] at h; exact hadW_of (by decide) (by omega) (by omega)) (fun v l t _ => by simp [encW])
        refine emit_leaf (σ := aUpdateRaftVoterRequest_2) (i := 0) (o := 0) (ty := .int .i16) ?_ (by rfl) (by kernel_rfl) (by kernel_rfl) rfl rfl
        refine emit_call (av_i16 (null := (-1)) (fl := true)) (by kernel_rfl) (by rfl) (fun v l t h => by first | rfl | (obtain ⟨_, h⟩ := h; have h : l = true := h; subst h; rfl) | (obtain ⟨_, h⟩ := h; have h : l = false := h; subst h; rfl))
       ·refine emit_fields (σ := aUpdateRaftVoterRequest_2) (i := 1) rfl ?_ ?_ (by rfl)
        ·refine emit_had (σ := aUpdateRaftVoterRequest_2) (i := 1) (E := fun _ fl x => leafE 2 (-1) fl x) ?_ (by intro v l h; simp [Zk, Zf] at h; exact hadW_of (by decide) (by omega) (by omega)) (fun v l t _ => by simp [encW])
         refine emit_leaf (σ := aUpdateRaftVoterRequest_2) (i := 1) (o := 1) (ty := .int .i16) ?_ (by rfl) (by kernel_rfl) (by kernel_rfl) rfl rfl
         refine emit_call (av_i16 (null := (-1)) (fl := true)) (by kernel_rfl) (by rfl) (fun v l t h => by first | rfl | (obtain ⟨_, h⟩ := h; have h : l = true := h; subst h; rfl) | (obtain ⟨_, h⟩ := h; have h : l = false := h; subst h; rfl))
        ·refine emit_tags ?_ ?_ (by rfl) (by rfl) (by rfl)
         ·refine emit_tagn (σ := aUpdateRaftVoterRequest_2) (o := 2) ?_ ?_ ?_ ?_ ?_ ?_ ?_ <;> first | rfl | decide | kernel_rfl
         ·refine emit_tage (σ := aUpdateRaftVoterRequest_2) (o := 2) ?_ ?_ ?_ ?_ ?_ <;> first | rfl | decide | kernel_rfl
      ·refine emitw_tags ?_ (emitw_end (by rfl))
       refine emit_tags ?_ ?_ (by rfl) (by rfl) (by rfl)
       ·refine emit_tagn (σ := aUpdateRaftVoterRequest) (o := 24) ?_ ?_ ?_ ?_ ?_ ?_ ?_ <;> first | rfl | decide | kernel_rfl
       ·refine emit_tage (σ := aUpdateRaftVoterRequest) (o := 24) ?_ ?_ ?_ ?_ ?_ <;> first | rfl | decide | kernel_rfl
end Go.Proofs.Ytmehfgiadapekaa
set_option linter.unusedSimpArgs false
set_option linter.unusedVariables false
namespace Go.Proofs.Ytmehfgiadapekaa
open Go Go.RowKit
abbrev gUpdateRaftVoterRequestListener : St := ⟨0, .cons 0 .str (.cons 1 .str (.cons 2 (.int .u16) .nil)), none, 4⟩
abbrev ft_UpdateRaftVoterRequestListener : List FD := [.mk 8 0 (-1) (-1) (-1) 0 0 [], .mk 8 0 (-1) (-1) (-1) 0 0 [], .mk 5 0 (-1) (-1) (-1) 0 0 []]
set_option maxRecDepth 100000 in
theorem mk_UpdateRaftVoterRequestListener : ValC Try.prog 159 (.struct gUpdateRaftVoterRequestListener.lay (some 3) 4) (fun y => .part (fillsW ft_UpdateRaftVoterRequestListener 0 y) y.U) (fun y => goksW ft_UpdateRaftVoterRequestListener 0 y /\ UOk y.U) := by
 refine make_top (z := .agg #[.string (str []), .string (str []), .int .u16 0, .map none]) (T := 180) Try.func159 rfl rfl rfl (by decide) rfl (by decide) (by kernel_rfl) rfl (fun w F => ?_) rfl (by kernel_rfl) ?_
 ·exact Lay.zero_rep gUpdateRaftVoterRequestListener.lay _ (by repeat' (first | rfl | trivial | apply And.intro))
 ·refine rest_cons ?_ ?_
  ·exact fst_mono (fst_make (mids := [_, _]) (i := 0) (j := 0) (o := 0) (k := 0) (T := 180) (ty := .str) iat_C (by kernel_rfl) (by kernel_rfl) (val_text (eb := 5) (by kernel_rfl) (by kernel_rfl) (by kernel_rfl)) rfl (by kernel_rfl) (by kernel_rfl) (by kernel_rfl) (by kernel_rfl) (by kernel_rfl)) rfl (fun _ _ => fk_str (by decide)) (fun _ h => fo_text h)
  refine rest_cons ?_ ?_
  ·exact fst_mono (fst_make (mids := [_, _]) (i := 1) (j := 1) (o := 1) (k := 1) (T := 180) (ty := .str) iat_C (by kernel_rfl) (by kernel_rfl) (val_text (eb := 5) (by kernel_rfl) (by kernel_rfl) (by kernel_rfl)) rfl (by kernel_rfl) (by kernel_rfl) (by kernel_rfl) (by kernel_rfl) (by kernel_rfl)) rfl (fun _ _ => fk_str (by decide)) (fun _ h => fo_text h)
  refine rest_cons ?_ ?_
  ·exact fst_mono (fst_make (mids := [_, _]) (i := 2) (j := 2) (o := 2) (k := 2) (T := 180) (ty := .int .u16) iat_C (by kernel_rfl) (by kernel_rfl) (val_num (kd := .u16) (by kernel_rfl) (by kernel_rfl) (by kernel_rfl) (by kernel_rfl)) rfl (by kernel_rfl) (by kernel_rfl) (by kernel_rfl) (by kernel_rfl) (by kernel_rfl)) rfl (fun _ _ => fk_u16) (fun _ h => trivial)
  refine rest_ret (T := 180) rfl ?_ rfl (by kernel_rfl) (by kernel_rfl) (by kernel_rfl) (by kernel_rfl) rfl (by kernel_rfl)
  exact tags_set rfl (by kernel_rfl) (by kernel_rfl) (by kernel_rfl) rfl (by kernel_rfl) (by kernel_rfl) (by kernel_rfl) (tag_make (T := 180) (kt := 3) (TG := 64) setTag_spec (by kernel_rfl) (by kernel_rfl) (by kernel_rfl) (by kernel_rfl) (by kernel_rfl) (by kernel_rfl) (by kernel_rfl) (by kernel_rfl)) (by kernel_rfl)
abbrev gUpdateRaftVoterRequestKRaftVersionFeature : St := ⟨0, .cons 0 (.int .i16) (.cons 1 (.int .i16) .nil), none, 3⟩
abbrev ft_UpdateRaftVoterRequestKRaftVersionFeature : List FD := [.mk 2 0 (-1) (-1) (-1) 0 0 [], .mk 2 0 (-1) (-1) (-1) 0 0 []]
set_option maxRecDepth 100000 in
theorem mk_UpdateRaftVoterRequestKRaftVersionFeature : ValC Try.prog 160 (.struct gUpdateRaftVoterRequestKRaftVersionFeature.lay (some 2) 3) (fun y => .part (fillsW ft_UpdateRaftVoterRequestKRaftVersionFeature 0 y) y.U) (fun y => goksW ft_UpdateRaftVoterRequestKRaftVersionFeature 0 y /\ UOk y.U) := by
 refine make_top (z := .agg #[.int .i16 0, .int .i16 0, .map none]) (T := 87) Try.func160 rfl rfl rfl (by decide) rfl (by decide) (by kernel_rfl) rfl (fun w F => ?_) rfl (by kernel_rfl) ?_
 ·exact Lay.zero_rep gUpdateRaftVoterRequestKRaftVersionFeature.lay _ (by repeat' (first | rfl | trivial | apply And.intro))
 ·refine rest_cons ?_ ?_
  ·exact fst_mono (fst_make (mids := [_, _]) (i := 0) (j := 0) (o := 0) (k := 0) (T := 87) (ty := .int .i16) iat_C (by kernel_rfl) (by kernel_rfl) (val_num (kd := .i16) (by kernel_rfl) (by kernel_rfl) (by kernel_rfl) (by kernel_rfl)) rfl (by kernel_rfl) (by kernel_rfl) (by kernel_rfl) (by kernel_rfl) (by kernel_rfl)) rfl (fun _ _ => fk_i16) (fun _ h => trivial)
  refine rest_cons ?_ ?_
  ·exact fst_mono (fst_make (mids := [_, _]) (i := 1) (j := 1) (o := 1) (k := 1) (T := 87) (ty := .int .i16) iat_C (by kernel_rfl) (by kernel_rfl) (val_num (kd := .i16) (by kernel_rfl) (by kernel_rfl) (by kernel_rfl) (by kernel_rfl)) rfl (by kernel_rfl) (by kernel_rfl) (by kernel_rfl) (by kernel_rfl) (by kernel_rfl)) rfl (fun _ _ => fk_i16) (fun _ h => trivial)
  refine rest_ret (T := 87) rfl ?_ rfl (by kernel_rfl) (by kernel_rfl) (by kernel_rfl) (by kernel_rfl) rfl (by kernel_rfl)
  exact tags_set rfl (by kernel_rfl) (by kernel_rfl) (by kernel_rfl) rfl (by kernel_rfl) (by kernel_rfl) (by kernel_rfl) (tag_make (T := 87) (kt := 2) (TG := 64) setTag_spec (by kernel_rfl) (by kernel_rfl) (by kernel_rfl) (by kernel_rfl) (by kernel_rfl) (by kernel_rfl) (by kernel_rfl) (by kernel_rfl)) (by kernel_rfl)
abbrev gUpdateRaftVoterRequest : St := ⟨0, .cons 0 (.int .i16) (.cons 1 .pstr (.cons 2 (.int .i32) (.cons 3 (.int .i32) (.cons 4 .uuid (.cons 20 (.list (.struct (.cons 0 .str (.cons 1 .str (.cons 2 (.int .u16) .nil))) (some 3) 4) 4) (.cons 21 (.struct (.cons 0 (.int .i16) (.cons 1 (.int .i16) .nil)) (some 2) 3) .nil)))))), none, 25⟩
set_option maxRecDepth 100000 in
theorem fill_UpdateRaftVoterRequest : FillC Try.prog 82 gUpdateRaftVoterRequest 24 Zg := by
 refine fill_top Try.func82 rfl rfl rfl (by decide) rfl (by decide) ?_
 refine rest_cons ?_ ?_
 ·exact fst_mono (fst_fill (mids := [_]) (i := 1) (j := 0) (o := 1) (k := 1) (T := 89) (ty := .pstr) iat_C (by kernel_rfl) (by kernel_rfl) (val_call textOf_c (by kernel_rfl) (by kernel_rfl)) rfl (by kernel_rfl) (by kernel_rfl) (by kernel_rfl) (by kernel_rfl) (by kernel_rfl)) rfl (fun _ _ => fk_pstr (by decide)) (fun _ h => fo_text h)
 refine rest_cons ?_ ?_
 ·exact fst_mono (fst_fill (mids := [_, _]) (i := 2) (j := 1) (o := 2) (k := 2) (T := 89) (ty := .int .i32) iat_C (by kernel_rfl) (by kernel_rfl) (val_num (kd := .i32) (by kernel_rfl) (by kernel_rfl) (by kernel_rfl) (by kernel_rfl)) rfl (by kernel_rfl) (by kernel_rfl) (by kernel_rfl) (by kernel_rfl) (by kernel_rfl)) rfl (fun _ _ => fk_i32) (fun _ h => trivial)
 refine rest_cons ?_ ?_
 ·exact fst_mono (fst_fill (mids := [_, _]) (i := 3) (j := 2) (o := 3) (k := 3) (T := 89) (ty := .int .i32) iat_C (by kernel_rfl) (by kernel_rfl) (val_num (kd := .i32) (by kernel_rfl) (by kernel_rfl) (by kernel_rfl) (by kernel_rfl)) rfl (by kernel_rfl) (by kernel_rfl) (by kernel_rfl) (by kernel_rfl) (by kernel_rfl)) rfl (fun _ _ => fk_i32) (fun _ h => trivial)
 refine rest_cons ?_ ?_
 ·exact fst_mono (fst_fill (mids := [_, _]) (i := 4) (j := 3) (o := 4) (k := 4) (T := 89) (ty := .uuid) iat_C (by kernel_rfl) (by kernel_rfl) (val_uuid (by kernel_rfl) sixteen_c (by kernel_rfl) (by kernel_rfl)) rfl (by kernel_rfl) (by kernel_rfl) (by kernel_rfl) (by kernel_rfl) (by kernel_rfl)) rfl (fun _ _ => fk_uuid) (fun _ h => trivial)
 refine rest_cons ?_ ?_
 ·exact fst_mono (fst_list (i := 5) (j := 4) (o := 20) (e := 180) (sz := 4) (ety := .struct (.cons 0 .str (.cons 1 .str (.cons 2 (.int .u16) .nil))) (some 3) 4) iat_C (by kernel_rfl) (by kernel_rfl) (by kernel_rfl) (by kernel_rfl) (by kernel_rfl) rfl (by kernel_rfl) rfl (mk_fill (T := 89) (k := 5) iat_C (by kernel_rfl) (by kernel_rfl) (by kernel_rfl) (by kernel_rfl) rfl (by kernel_rfl) (by kernel_rfl) (by kernel_rfl) rfl (by kernel_rfl) (by kernel_rfl) (by kernel_rfl)) (app_fill (T := 89) (k := 5) (by kernel_rfl) (by kernel_rfl) mk_UpdateRaftVoterRequestListener (by kernel_rfl) (by kernel_rfl) (by kernel_rfl) (by kernel_rfl) (by kernel_rfl) (by kernel_rfl) (by kernel_rfl) rfl (by kernel_rfl)) (by kernel_rfl) rfl rfl (by kernel_rfl) (by kernel_rfl)) (by simp [zeroW]) (fun _ _ => fk_list) (fun _ h => fo_list h)
 refine rest_cons ?_ ?_
 ·exact fst_mono (fst_fill (mids := [_]) (i := 6) (j := 5) (o := 21) (k := 6) (T := 89) (ty := .struct (.cons 0 (.int .i16) (.cons 1 (.int .i16) .nil)) (some 2) 3) iat_C (by kernel_rfl) (by kernel_rfl) (val_call mk_UpdateRaftVoterRequestKRaftVersionFeature (by kernel_rfl) (by kernel_rfl)) rfl (by kernel_rfl) (by kernel_rfl) (by kernel_rfl) (by kernel_rfl) (by kernel_rfl)) rfl (fun _ _ => fk_part (by decide)) (fun _ h => fo_part h)
 refine rest_tags rfl ?_
 exact tags_set rfl (by kernel_rfl) (by kernel_rfl) (by kernel_rfl) rfl (by kernel_rfl) (by kernel_rfl) (by kernel_rfl) (tag_fill (T := 89) (kt := 7) (TG := 64) (by kernel_rfl) setTag_spec (by kernel_rfl) (by kernel_rfl) (by kernel_rfl) (by kernel_rfl) (by kernel_rfl) (by kernel_rfl) (by kernel_rfl) (by kernel_rfl)) (by kernel_rfl)
theorem set_UpdateRaftVoterRequest : SetC Try.prog 81 { gUpdateRaftVoterRequest with tg := some 24 } :=
 set_rule Try.func81 rfl rfl rfl (by kernel_rfl) (by kernel_rfl) rfl rfl rfl (by decide)
theorem make_UpdateRaftVoterRequest : MakeC Try.prog 31 Zf Zk Zg := by
 refine make_rule (σ := gUpdateRaftVoterRequest) (σa := aUpdateRaftVoterRequest) (ot := 24) (zc := #[.int .i16 0, .pointer none, .int .i32 0, .int .i32 0, .int .u8 0, .int .u8 0, .int .u8 0, .int .u8 0, .int .u8 0, .int .u8 0, .int .u8 0, .int .u8 0, .int .u8 0, .int .u8 0, .int .u8 0, .int .u8 0, .int .u8 0, .int .u8 0, .int .u8 0, .int .u8 0, .slice none 0 0, .int .i16 0, .int .i16 0, .map none, .map none]) Try.func31 rfl rfl rfl (by kernel_rfl) (by kernel_rfl) (by kernel_rfl) (by kernel_rfl) (by kernel_rfl) (by kernel_rfl) (by kernel_rfl) (by decide) (fun w F => ?_) rfl set_UpdateRaftVoterRequest fill_UpdateRaftVoterRequest app_UpdateRaftVoterRequest rfl rfl rfl
 exact Lay.zero_rep gUpdateRaftVoterRequest.lay _ (by repeat' (first | rfl | trivial | apply And.intro))
end Go.Proofs.Ytmehfgiadapekaa
