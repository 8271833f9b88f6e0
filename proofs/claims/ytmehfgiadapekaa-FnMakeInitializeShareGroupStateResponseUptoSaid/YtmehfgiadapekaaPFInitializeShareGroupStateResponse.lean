/-
  InitializeShareGroupStateResponse: AppendTo.
  InitializeShareGroupStateResponse: its fields are set.
-/
import Derived.Test.YtmehfgiadapekaaPYu
import Derived.Test.YtmehfgiadapekaaPZd
import Derived.Test.YtmehfgiadapekaaPZx
set_option linter.unusedSimpArgs false
set_option linter.unusedVariables false
namespace Go.Proofs.Ytmehfgiadapekaa
open Go Go.RowKit
abbrev Zg : List FD := [.mk 11 0 (-1) (-1) (-1) 0 10 [.mk 7 0 (-1) (-1) (-1) 0 0 [], .mk 11 0 (-1) (-1) (-1) 0 10 [.mk 3 0 (-1) (-1) (-1) 0 0 [], .mk 2 0 (-1) (-1) (-1) 0 0 [], .mk 8 0 (-1) 0 (-1) 0 0 []]]]
abbrev Zf : Int -> Bool := fun ver => decide ((0 : Int) <= ver)
abbrev Zk : OkV := fun ver fl => 0 <= ver /\ ver <= 0 /\ fl = Zf ver
abbrev aInitializeShareGroupStateResponse : St := ⟨0, .cons 0 (.int .i16) (.cons 1 (.list (.struct (.cons 0 .uuid (.cons 16 (.list (.struct (.cons 0 (.int .i32) (.cons 1 (.int .i16) (.cons 2 .pstr .nil))) (some 3) 4) 4) .nil)) (some 17) 18) 18) .nil), some 2, 3⟩
abbrev aInitializeShareGroupStateResponse_1 : St := ⟨9, .cons 0 .uuid (.cons 16 (.list (.struct (.cons 0 (.int .i32) (.cons 1 (.int .i16) (.cons 2 .pstr .nil))) (some 3) 4) 4) .nil), some 17, 18⟩
abbrev aInitializeShareGroupStateResponse_2 : St := ⟨13, .cons 0 (.int .i32) (.cons 1 (.int .i16) (.cons 2 .pstr .nil)), some 3, 4⟩
set_option maxRecDepth 100000 in
theorem app_InitializeShareGroupStateResponse : AppToC Try.prog 76 aInitializeShareGroupStateResponse (fun ver => decide ((0 : Int) <= ver)) Zk Zg := by
 refine app_top (m := 17) (N := 144) Try.func76 rfl rfl (by kernel_rfl) (by kernel_rfl) rfl rfl (by decide) (by decide) rfl ?_
 refine emitw_fields (σ := aInitializeShareGroupStateResponse) (i := 1) rfl ?_ ?_ (by rfl)
 ·refine emit_had (σ := aInitializeShareGroupStateResponse) (i := 1) (E := listE false (structW ([.mk 7 0 (-1) (-1) (-1) 0 0 [], .mk 11 0 (-1) (-1) (-1) 0 10 [.mk 3 0 (-1) (-1) (-1) 0 0 [], .mk 2 0 (-1) (-1) (-1) 0 0 [], .mk 8 0 (-1) 0 (-1) 0 0 []]]))) ?_ (by intro v l h; simp [Zk, Zf] at h; exact hadW_of (by decide) (by omega) (by omega)) (fun v l t _ => by simp [encW, listE] <;> rfl)
  refine emit_leaf (σ := aInitializeShareGroupStateResponse) (i := 1) (o := 1) (ty := .list (.struct (.cons 0 .uuid (.cons 16 (.list (.struct (.cons 0 (.int .i32) (.cons 1 (.int .i16) (.cons 2 .pstr .nil))) (some 3) 4) 4) .nil)) (some 17) 18) 18) ?_ (by rfl) (by kernel_rfl) (by kernel_rfl) rfl rfl
  refine emit_list ?_ ?_ (by rfl)
  ·refine emit_cond (rs := [_]) (tstw_flex (by rfl)) ?_ ?_ preC_stable (by rfl)
   ·refine emit_cnt ct_calen (by kernel_rfl) (by kernel_rfl) rfl (by rfl) (fun v l h => h.2)
   ·refine emit_cnt ct_alen (by kernel_rfl) (by kernel_rfl) rfl (by rfl) (fun v l h => h.2)
  ·refine emit_loop ?_ (by kernel_rfl) rfl (by rfl)
   refine emit_els (σe := aInitializeShareGroupStateResponse_1) ?_ (by kernel_rfl) rfl (by rfl) (by rfl)
   refine emit_fields (σ := aInitializeShareGroupStateResponse_1) (i := 0) rfl ?_ ?_ (by rfl)
   ·refine emit_had (σ := aInitializeShareGroupStateResponse_1) (i := 0) (E := fun _ fl x => leafE 7 (-1) fl x) ?_ (by intro v l h; simp [Zk, Zf] at h; exact hadW_of (by decide) (by omega) (by omega)) (fun v l t _ => by simp [encW])
    exact emit_uuidb (σ := aInitializeShareGroupStateResponse_1) (i := 0) (o := 0) (av_uuid (null := (-1)) (fl := true)) (by kernel_rfl) (fun v l t h => by first | rfl | (obtain ⟨_, h⟩ := h; have h : l = true := h; subst h; rfl) | (obtain ⟨_, h⟩ := h; have h : l = false := h; subst h; rfl)) (by rfl) (by kernel_rfl) (by kernel_rfl) rfl rfl (by kernel_rfl) rfl
   ·refine emit_fields (σ := aInitializeShareGroupStateResponse_1) (i := 1) rfl ?_ ?_ (by rfl)
    ·refine emit_had (σ := aInitializeShareGroupStateResponse_1) (i := 1) (E := listE false (structW ([.mk 3 0 (-1) (-1) (-1) 0 0 [], .mk 2 0 (-1) (-1) (-1) 0 0 [], .mk 8 0 (-1) 0 (-1) 0 0 []]))) ?_ (by intro v l h; simp [Zk, Zf] at h; exact hadW_of (by decide) (by omega) (by omega)) (fun v l t _ => by simp [encW, listE] <;> rfl)
     refine emit_leaf (σ := aInitializeShareGroupStateResponse_1) (i := 1) (o := 16) (ty := .list (.struct (.cons 0 (.int .i32) (.cons 1 (.int .i16) (.cons 2 .pstr .nil))) (some 3) 4) 4) ?_ (by rfl) (by kernel_rfl) (by kernel_rfl) rfl rfl
     refine emit_list ?_ ?_ (by rfl)
     ·refine emit_cond (rs := [_]) (tstw_flex (by rfl)) ?_ ?_ preC_stable (by rfl)
      ·refine emit_cnt ct_calen (by kernel_rfl) (by kernel_rfl) rfl (by rfl) (fun v l h => h.2)
      ·refine emit_cnt ct_alen (by kernel_rfl) (by kernel_rfl) rfl (by rfl) (fun v l h => h.2)
     ·refine emit_loop ?_ (by kernel_rfl) rfl (by rfl)
      refine emit_els (σe := aInitializeShareGroupStateResponse_2) ?_ (by kernel_rfl) rfl (by rfl) (by rfl)
      refine emit_fields (σ := aInitializeShareGroupStateResponse_2) (i := 0) rfl ?_ ?_ (by rfl)
      ·refine emit_had (σ := aInitializeShareGroupStateResponse_2) (i := 0) (E := fun _ fl x => leafE 3 (-1) fl x) ?_ (by intro v l h; simp [Zk, Zf] at h; exact hadW_of (by decide) (by omega) (by omega)) (fun v l t _ => by simp [encW])
       refine emit_leaf (σ := aInitializeShareGroupStateResponse_2) (i := 0) (o := 0) (ty := .int .i32) ?_ (by rfl) (by kernel_rfl) (by kernel_rfl) rfl rfl
       refine emit_call (av_i32 (null := (-1)) (fl := true)) (by kernel_rfl) (by rfl) (fun v l t h => by first | rfl | (obtain ⟨_, h⟩ := h; have h : l = true := h; subst h; rfl) | (obtain ⟨_, h⟩ := h; have h : l = false := h; subst h; rfl))
      ·refine emit_fields (σ := aInitializeShareGroupStateResponse_2) (i := 1) rfl ?_ ?_ (by rfl)
       ·refine emit_had (σ := aInitializeShareGroupStateResponse_2) (i := 1) (E := fun _ fl x => leafE 2 (-1) fl x) ?_ (by intro v l h; simp [Zk, Zf] at h; exact hadW_of (by decide) (by omega) (by omega)) (fun v l t _ => by simp [encW])
        refine emit_leaf (σ := aInitializeShareGroupStateResponse_2) (i := 1) (o := 1) (ty := .int .i16) ?_ (by rfl) (by kernel_rfl) (by kernel_rfl) rfl rfl
        refine emit_call (av_i16 (null := (-1)) (fl := true)) (by kernel_rfl) (by rfl) (fun v l t h => by first | rfl | (obtain ⟨_, h⟩ := h; have h : l = true := h; subst h; rfl) | (obtain ⟨_, h⟩ := h; have h : l = false := h; subst h; rfl))
       ·refine emit_fields (σ := aInitializeShareGroupStateResponse_2) (i := 2) rfl ?_ ?_ (by rfl)
        ·refine emit_had (σ := aInitializeShareGroupStateResponse_2) (i := 2) (E := fun _ fl x => leafE 8 0 fl x) ?_ (by intro v l h; simp [Zk, Zf] at h; exact hadW_of (by decide) (by omega) (by omega)) (fun v l t _ => by simp [encW])
         refine emit_leaf (σ := aInitializeShareGroupStateResponse_2) (i := 2) (o := 2) (ty := .pstr) ?_ (by rfl) (by kernel_rfl) (by kernel_rfl) rfl rfl
         refine emit_cond (rs := [_]) (tstw_flex (by rfl)) ?_ ?_ preV_stable (by rfl)
         ·refine emit_call (av_cnstr (null := 0) (by decide)) (by kernel_rfl) (by rfl) (fun v l t h => by first | rfl | (obtain ⟨_, h⟩ := h; have h : l = true := h; subst h; rfl) | (obtain ⟨_, h⟩ := h; have h : l = false := h; subst h; rfl))
         ·refine emit_call (av_nstr (null := 0) (by decide)) (by kernel_rfl) (by rfl) (fun v l t h => by first | rfl | (obtain ⟨_, h⟩ := h; have h : l = true := h; subst h; rfl) | (obtain ⟨_, h⟩ := h; have h : l = false := h; subst h; rfl))
        ·refine emit_tags ?_ ?_ (by rfl) (by rfl) (by rfl)
         ·refine emit_tagn (σ := aInitializeShareGroupStateResponse_2) (o := 3) ?_ ?_ ?_ ?_ ?_ ?_ ?_ <;> first | rfl | decide | kernel_rfl
         ·refine emit_tage (σ := aInitializeShareGroupStateResponse_2) (o := 3) ?_ ?_ ?_ ?_ ?_ <;> first | rfl | decide | kernel_rfl
    ·refine emit_tags ?_ ?_ (by rfl) (by rfl) (by rfl)
     ·refine emit_tagn (σ := aInitializeShareGroupStateResponse_1) (o := 17) ?_ ?_ ?_ ?_ ?_ ?_ ?_ <;> first | rfl | decide | kernel_rfl
     ·refine emit_tage (σ := aInitializeShareGroupStateResponse_1) (o := 17) ?_ ?_ ?_ ?_ ?_ <;> first | rfl | decide | kernel_rfl
 ·refine emitw_tags ?_ (emitw_end (by rfl))
  refine emit_tags ?_ ?_ (by rfl) (by rfl) (by rfl)
  ·refine emit_tagn (σ := aInitializeShareGroupStateResponse) (o := 2) ?_ ?_ ?_ ?_ ?_ ?_ ?_ <;> first | rfl | decide | kernel_rfl
  ·refine emit_tage (σ := aInitializeShareGroupStateResponse) (o := 2) ?_ ?_ ?_ ?_ ?_ <;> first | rfl | decide | kernel_rfl
end Go.Proofs.Ytmehfgiadapekaa
set_option linter.unusedSimpArgs false
set_option linter.unusedVariables false
namespace Go.Proofs.Ytmehfgiadapekaa
open Go Go.RowKit
abbrev gInitializeShareGroupStateResponseTopicPartition : St := ⟨0, .cons 0 (.int .i32) (.cons 1 (.int .i16) (.cons 2 .pstr .nil)), none, 4⟩
abbrev ft_InitializeShareGroupStateResponseTopicPartition : List FD := [.mk 3 0 (-1) (-1) (-1) 0 0 [], .mk 2 0 (-1) (-1) (-1) 0 0 [], .mk 8 0 (-1) 0 (-1) 0 0 []]
set_option maxRecDepth 100000 in
theorem mk_InitializeShareGroupStateResponseTopicPartition : ValC Try.prog 195 (.struct gInitializeShareGroupStateResponseTopicPartition.lay (some 3) 4) (fun y => .part (fillsW ft_InitializeShareGroupStateResponseTopicPartition 0 y) y.U) (fun y => goksW ft_InitializeShareGroupStateResponseTopicPartition 0 y /\ UOk y.U) := by
 refine make_top (z := .agg #[.int .i32 0, .int .i16 0, .pointer none, .map none]) (T := 174) Try.func195 rfl rfl rfl (by decide) rfl (by decide) (by kernel_rfl) rfl (fun w F => ?_) rfl (by kernel_rfl) ?_
 ·exact Lay.zero_rep gInitializeShareGroupStateResponseTopicPartition.lay _ (by repeat' (first | rfl | trivial | apply And.intro))
 ·refine rest_cons ?_ ?_
  ·exact fst_mono (fst_make (mids := [_, _]) (i := 0) (j := 0) (o := 0) (k := 0) (T := 174) (ty := .int .i32) iat_C (by kernel_rfl) (by kernel_rfl) (val_num (kd := .i32) (by kernel_rfl) (by kernel_rfl) (by kernel_rfl) (by kernel_rfl)) rfl (by kernel_rfl) (by kernel_rfl) (by kernel_rfl) (by kernel_rfl) (by kernel_rfl)) rfl (fun _ _ => fk_i32) (fun _ h => trivial)
  refine rest_cons ?_ ?_
  ·exact fst_mono (fst_make (mids := [_, _]) (i := 1) (j := 1) (o := 1) (k := 1) (T := 174) (ty := .int .i16) iat_C (by kernel_rfl) (by kernel_rfl) (val_num (kd := .i16) (by kernel_rfl) (by kernel_rfl) (by kernel_rfl) (by kernel_rfl)) rfl (by kernel_rfl) (by kernel_rfl) (by kernel_rfl) (by kernel_rfl) (by kernel_rfl)) rfl (fun _ _ => fk_i16) (fun _ h => trivial)
  refine rest_cons ?_ ?_
  ·exact fst_mono (fst_make (mids := [_]) (i := 2) (j := 2) (o := 2) (k := 2) (T := 174) (ty := .pstr) iat_C (by kernel_rfl) (by kernel_rfl) (val_call textOf_c (by kernel_rfl) (by kernel_rfl)) rfl (by kernel_rfl) (by kernel_rfl) (by kernel_rfl) (by kernel_rfl) (by kernel_rfl)) rfl (fun _ _ => fk_pstr (by decide)) (fun _ h => fo_text h)
  refine rest_ret (T := 174) rfl ?_ rfl (by kernel_rfl) (by kernel_rfl) (by kernel_rfl) (by kernel_rfl) rfl (by kernel_rfl)
  exact tags_set rfl (by kernel_rfl) (by kernel_rfl) (by kernel_rfl) rfl (by kernel_rfl) (by kernel_rfl) (by kernel_rfl) (tag_make (T := 174) (kt := 3) (TG := 64) setTag_spec (by kernel_rfl) (by kernel_rfl) (by kernel_rfl) (by kernel_rfl) (by kernel_rfl) (by kernel_rfl) (by kernel_rfl) (by kernel_rfl)) (by kernel_rfl)
abbrev gInitializeShareGroupStateResponseTopic : St := ⟨0, .cons 0 .uuid (.cons 16 (.list (.struct (.cons 0 (.int .i32) (.cons 1 (.int .i16) (.cons 2 .pstr .nil))) (some 3) 4) 4) .nil), none, 18⟩
abbrev ft_InitializeShareGroupStateResponseTopic : List FD := [.mk 7 0 (-1) (-1) (-1) 0 0 [], .mk 11 0 (-1) (-1) (-1) 0 10 [.mk 3 0 (-1) (-1) (-1) 0 0 [], .mk 2 0 (-1) (-1) (-1) 0 0 [], .mk 8 0 (-1) 0 (-1) 0 0 []]]
set_option maxRecDepth 100000 in
theorem mk_InitializeShareGroupStateResponseTopic : ValC Try.prog 153 (.struct gInitializeShareGroupStateResponseTopic.lay (some 17) 18) (fun y => .part (fillsW ft_InitializeShareGroupStateResponseTopic 0 y) y.U) (fun y => goksW ft_InitializeShareGroupStateResponseTopic 0 y /\ UOk y.U) := by
 refine make_top (z := .agg #[.int .u8 0, .int .u8 0, .int .u8 0, .int .u8 0, .int .u8 0, .int .u8 0, .int .u8 0, .int .u8 0, .int .u8 0, .int .u8 0, .int .u8 0, .int .u8 0, .int .u8 0, .int .u8 0, .int .u8 0, .int .u8 0, .slice none 0 0, .map none]) (T := 169) Try.func153 rfl rfl rfl (by decide) rfl (by decide) (by kernel_rfl) rfl (fun w F => ?_) rfl (by kernel_rfl) ?_
 ·exact Lay.zero_rep gInitializeShareGroupStateResponseTopic.lay _ (by repeat' (first | rfl | trivial | apply And.intro))
 ·refine rest_cons ?_ ?_
  ·exact fst_mono (fst_make (mids := [_, _]) (i := 0) (j := 0) (o := 0) (k := 0) (T := 169) (ty := .uuid) iat_C (by kernel_rfl) (by kernel_rfl) (val_uuid (by kernel_rfl) sixteen_c (by kernel_rfl) (by kernel_rfl)) rfl (by kernel_rfl) (by kernel_rfl) (by kernel_rfl) (by kernel_rfl) (by kernel_rfl)) rfl (fun _ _ => fk_uuid) (fun _ h => trivial)
  refine rest_cons ?_ ?_
  ·exact fst_mono (fst_list (i := 1) (j := 1) (o := 16) (e := 174) (sz := 4) (ety := .struct (.cons 0 (.int .i32) (.cons 1 (.int .i16) (.cons 2 .pstr .nil))) (some 3) 4) iat_C (by kernel_rfl) (by kernel_rfl) (by kernel_rfl) (by kernel_rfl) (by kernel_rfl) rfl (by kernel_rfl) rfl (mk_make (T := 169) (k := 1) iat_C (by kernel_rfl) (by kernel_rfl) (by kernel_rfl) (by kernel_rfl) rfl (by kernel_rfl) (by kernel_rfl) (by kernel_rfl) rfl (by kernel_rfl) (by kernel_rfl) (by kernel_rfl)) (app_make (T := 169) (k := 1) (by kernel_rfl) (by kernel_rfl) mk_InitializeShareGroupStateResponseTopicPartition (by kernel_rfl) (by kernel_rfl) (by kernel_rfl) (by kernel_rfl) (by kernel_rfl) (by kernel_rfl) (by kernel_rfl) rfl (by kernel_rfl)) (by kernel_rfl) rfl rfl (by kernel_rfl) (by kernel_rfl)) (by simp [zeroW]) (fun _ _ => fk_list) (fun _ h => fo_list h)
  refine rest_ret (T := 169) rfl ?_ rfl (by kernel_rfl) (by kernel_rfl) (by kernel_rfl) (by kernel_rfl) rfl (by kernel_rfl)
  exact tags_set rfl (by kernel_rfl) (by kernel_rfl) (by kernel_rfl) rfl (by kernel_rfl) (by kernel_rfl) (by kernel_rfl) (tag_make (T := 169) (kt := 2) (TG := 64) setTag_spec (by kernel_rfl) (by kernel_rfl) (by kernel_rfl) (by kernel_rfl) (by kernel_rfl) (by kernel_rfl) (by kernel_rfl) (by kernel_rfl)) (by kernel_rfl)
abbrev gInitializeShareGroupStateResponse : St := ⟨0, .cons 0 (.int .i16) (.cons 1 (.list (.struct (.cons 0 .uuid (.cons 16 (.list (.struct (.cons 0 (.int .i32) (.cons 1 (.int .i16) (.cons 2 .pstr .nil))) (some 3) 4) 4) .nil)) (some 17) 18) 18) .nil), none, 3⟩
set_option maxRecDepth 100000 in
theorem fill_InitializeShareGroupStateResponse : FillC Try.prog 75 gInitializeShareGroupStateResponse 2 Zg := by
 refine fill_top Try.func75 rfl rfl rfl (by decide) rfl (by decide) ?_
 refine rest_cons ?_ ?_
 ·exact fst_mono (fst_list (i := 1) (j := 0) (o := 1) (e := 169) (sz := 18) (ety := .struct (.cons 0 .uuid (.cons 16 (.list (.struct (.cons 0 (.int .i32) (.cons 1 (.int .i16) (.cons 2 .pstr .nil))) (some 3) 4) 4) .nil)) (some 17) 18) iat_C (by kernel_rfl) (by kernel_rfl) (by kernel_rfl) (by kernel_rfl) (by kernel_rfl) rfl (by kernel_rfl) rfl (mk_fill (T := 79) (k := 1) iat_C (by kernel_rfl) (by kernel_rfl) (by kernel_rfl) (by kernel_rfl) rfl (by kernel_rfl) (by kernel_rfl) (by kernel_rfl) rfl (by kernel_rfl) (by kernel_rfl) (by kernel_rfl)) (app_fill (T := 79) (k := 1) (by kernel_rfl) (by kernel_rfl) mk_InitializeShareGroupStateResponseTopic (by kernel_rfl) (by kernel_rfl) (by kernel_rfl) (by kernel_rfl) (by kernel_rfl) (by kernel_rfl) (by kernel_rfl) rfl (by kernel_rfl)) (by kernel_rfl) rfl rfl (by kernel_rfl) (by kernel_rfl)) (by simp [zeroW]) (fun _ _ => fk_list) (fun _ h => fo_list h)
 refine rest_tags rfl ?_
 exact tags_set rfl (by kernel_rfl) (by kernel_rfl) (by kernel_rfl) rfl (by kernel_rfl) (by kernel_rfl) (by kernel_rfl) (tag_fill (T := 79) (kt := 2) (TG := 64) (by kernel_rfl) setTag_spec (by kernel_rfl) (by kernel_rfl) (by kernel_rfl) (by kernel_rfl) (by kernel_rfl) (by kernel_rfl) (by kernel_rfl) (by kernel_rfl)) (by kernel_rfl)
theorem set_InitializeShareGroupStateResponse : SetC Try.prog 74 { gInitializeShareGroupStateResponse with tg := some 2 } :=
 set_rule Try.func74 rfl rfl rfl (by kernel_rfl) (by kernel_rfl) rfl rfl rfl (by decide)
theorem make_InitializeShareGroupStateResponse : MakeC Try.prog 28 Zf Zk Zg := by
 refine make_rule (σ := gInitializeShareGroupStateResponse) (σa := aInitializeShareGroupStateResponse) (ot := 2) (zc := #[.int .i16 0, .slice none 0 0, .map none]) Try.func28 rfl rfl rfl (by kernel_rfl) (by kernel_rfl) (by kernel_rfl) (by kernel_rfl) (by kernel_rfl) (by kernel_rfl) (by kernel_rfl) (by decide) (fun w F => ?_) rfl set_InitializeShareGroupStateResponse fill_InitializeShareGroupStateResponse app_InitializeShareGroupStateResponse rfl rfl rfl
 exact Lay.zero_rep gInitializeShareGroupStateResponse.lay _ (by repeat' (first | rfl | trivial | apply And.intro))
end Go.Proofs.Ytmehfgiadapekaa
