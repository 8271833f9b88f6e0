/-
  OffsetForLeaderEpochResponse: AppendTo.
  OffsetForLeaderEpochResponse: its fields are set.
-/
import Derived.Test.YtmehfgiadapekaaPZd
import Derived.Test.YtmehfgiadapekaaPZx
set_option linter.unusedSimpArgs false
set_option linter.unusedVariables false
namespace Go.Proofs.Ytmehfgiadapekaa
open Go Go.RowKit
abbrev Zg : List FD := [.mk 3 2 (-1) (-1) (-1) 0 0 [], .mk 11 0 (-1) (-1) (-1) 0 10 [.mk 8 0 (-1) (-1) (-1) 0 0 [], .mk 11 0 (-1) (-1) (-1) 0 10 [.mk 2 0 (-1) (-1) (-1) 0 0 [], .mk 3 0 (-1) (-1) (-1) 0 0 [], .mk 3 1 (-1) (-1) (-1) (-1) 0 [], .mk 4 0 (-1) (-1) (-1) (-1) 0 []]]]
abbrev Zf : Int -> Bool := fun ver => decide ((4 : Int) <= ver)
abbrev Zk : OkV := fun ver fl => 0 <= ver /\ ver <= 4 /\ fl = Zf ver
abbrev aOffsetForLeaderEpochResponse : St := ⟨0, .cons 0 (.int .i16) (.cons 1 (.int .i32) (.cons 2 (.list (.struct (.cons 0 .str (.cons 1 (.list (.struct (.cons 0 (.int .i16) (.cons 1 (.int .i32) (.cons 2 (.int .i32) (.cons 3 (.int .i64) .nil)))) (some 4) 5) 5) .nil)) (some 2) 3) 3) .nil)), some 3, 4⟩
abbrev aOffsetForLeaderEpochResponse_1 : St := ⟨10, .cons 0 .str (.cons 1 (.list (.struct (.cons 0 (.int .i16) (.cons 1 (.int .i32) (.cons 2 (.int .i32) (.cons 3 (.int .i64) .nil)))) (some 4) 5) 5) .nil), some 2, 3⟩
abbrev aOffsetForLeaderEpochResponse_2 : St := ⟨14, .cons 0 (.int .i16) (.cons 1 (.int .i32) (.cons 2 (.int .i32) (.cons 3 (.int .i64) .nil))), some 4, 5⟩
set_option maxRecDepth 100000 in
theorem app_OffsetForLeaderEpochResponse : AppToC Try.prog 59 aOffsetForLeaderEpochResponse (fun ver => decide ((4 : Int) <= ver)) Zk Zg := by
 refine app_top (m := 19) (N := 164) Try.func59 rfl rfl (by kernel_rfl) (by kernel_rfl) rfl rfl (by decide) (by decide) rfl ?_
 refine emitw_fields (σ := aOffsetForLeaderEpochResponse) (i := 1) rfl ?_ ?_ (by rfl)
 ·refine emit_cond (rs := [0]) (tstw_geq (by rfl)) ?_ ?_ (preH_stable (σ := aOffsetForLeaderEpochResponse) (i := 1)) (by rfl)
  ·refine emit_had (σ := aOffsetForLeaderEpochResponse) (i := 1) (E := fun _ fl x => leafE 3 (-1) fl x) ?_ (by intro v l h; simp [Zk, Zf] at h; exact hadW_of (by decide) (by omega) (by omega)) (fun v l t _ => by simp [encW])
   refine emit_leaf (σ := aOffsetForLeaderEpochResponse) (i := 1) (o := 1) (ty := .int .i32) ?_ (by rfl) (by kernel_rfl) (by kernel_rfl) rfl rfl
   refine emit_call (av_i32 (null := (-1)) (fl := true)) (by kernel_rfl) (by rfl) (fun v l t h => by first | rfl | (obtain ⟨_, h⟩ := h; have h : l = true := h; subst h; rfl) | (obtain ⟨_, h⟩ := h; have h : l = false := h; subst h; rfl))
  ·exact emit_lacks (by intro v l h; simp [Zk, Zf] at h; exact hadW_not (by omega))
 ·refine emitw_fields (σ := aOffsetForLeaderEpochResponse) (i := 2) rfl ?_ ?_ (by rfl)
  ·refine emit_had (σ := aOffsetForLeaderEpochResponse) (i := 2) (E := listE false (structW ([.mk 8 0 (-1) (-1) (-1) 0 0 [], .mk 11 0 (-1) (-1) (-1) 0 10 [.mk 2 0 (-1) (-1) (-1) 0 0 [], .mk 3 0 (-1) (-1) (-1) 0 0 [], .mk 3 1 (-1) (-1) (-1) (-1) 0 [], .mk 4 0 (-1) (-1) (-1) (-1) 0 []]]))) ?_ (by intro v l h; simp [Zk, Zf] at h; exact hadW_of (by decide) (by omega) (by omega)) (fun v l t _ => by simp [encW, listE] <;> rfl)
   refine emit_leaf (σ := aOffsetForLeaderEpochResponse) (i := 2) (o := 2) (ty := .list (.struct (.cons 0 .str (.cons 1 (.list (.struct (.cons 0 (.int .i16) (.cons 1 (.int .i32) (.cons 2 (.int .i32) (.cons 3 (.int .i64) .nil)))) (some 4) 5) 5) .nil)) (some 2) 3) 3) ?_ (by rfl) (by kernel_rfl) (by kernel_rfl) rfl rfl
   refine emit_list ?_ ?_ (by rfl)
   ·refine emit_cond (rs := [_]) (tstw_flex (by rfl)) ?_ ?_ preC_stable (by rfl)
    ·refine emit_cnt ct_calen (by kernel_rfl) (by kernel_rfl) rfl (by rfl) (fun v l h => h.2)
    ·refine emit_cnt ct_alen (by kernel_rfl) (by kernel_rfl) rfl (by rfl) (fun v l h => h.2)
   ·refine emit_loop ?_ (by kernel_rfl) rfl (by rfl)
    refine emit_els (σe := aOffsetForLeaderEpochResponse_1) ?_ (by kernel_rfl) rfl (by rfl) (by rfl)
    refine emit_fields (σ := aOffsetForLeaderEpochResponse_1) (i := 0) rfl ?_ ?_ (by rfl)
    ·refine emit_had (σ := aOffsetForLeaderEpochResponse_1) (i := 0) (E := fun _ fl x => leafE 8 (-1) fl x) ?_ (by intro v l h; simp [Zk, Zf] at h; exact hadW_of (by decide) (by omega) (by omega)) (fun v l t _ => by simp [encW])
     refine emit_leaf (σ := aOffsetForLeaderEpochResponse_1) (i := 0) (o := 0) (ty := .str) ?_ (by rfl) (by kernel_rfl) (by kernel_rfl) rfl rfl
     refine emit_cond (rs := [_]) (tstw_flex (by rfl)) ?_ ?_ preV_stable (by rfl)
     ·refine emit_call (av_cstr (null := (-1)) (by decide)) (by kernel_rfl) (by rfl) (fun v l t h => by first | rfl | (obtain ⟨_, h⟩ := h; have h : l = true := h; subst h; rfl) | (obtain ⟨_, h⟩ := h; have h : l = false := h; subst h; rfl))
     ·refine emit_call (av_str (null := (-1)) (by decide)) (by kernel_rfl) (by rfl) (fun v l t h => by first | rfl | (obtain ⟨_, h⟩ := h; have h : l = true := h; subst h; rfl) | (obtain ⟨_, h⟩ := h; have h : l = false := h; subst h; rfl))
    ·refine emit_fields (σ := aOffsetForLeaderEpochResponse_1) (i := 1) rfl ?_ ?_ (by rfl)
     ·refine emit_had (σ := aOffsetForLeaderEpochResponse_1) (i := 1) (E := listE false (structW ([.mk 2 0 (-1) (-1) (-1) 0 0 [], .mk 3 0 (-1) (-1) (-1) 0 0 [], .mk 3 1 (-1) (-1) (-1) (-1) 0 [], .mk 4 0 (-1) (-1) (-1) (-1) 0 []]))) ?_ (by intro v l h; simp [Zk, Zf] at h; exact hadW_of (by decide) (by omega) (by omega)) (fun v l t _ => by simp [encW, listE] <;> rfl)
      refine emit_leaf (σ := aOffsetForLeaderEpochResponse_1) (i := 1) (o := 1) (ty := .list (.struct (.cons 0 (.int .i16) (.cons 1 (.int .i32) (.cons 2 (.int .i32) (.cons 3 (.int .i64) .nil)))) (some 4) 5) 5) ?_ (by rfl) (by kernel_rfl) (by kernel_rfl) rfl rfl
      refine emit_list ?_ ?_ (by rfl)
      ·refine emit_cond (rs := [_]) (tstw_flex (by rfl)) ?_ ?_ preC_stable (by rfl)
       ·refine emit_cnt ct_calen (by kernel_rfl) (by kernel_rfl) rfl (by rfl) (fun v l h => h.2)
       ·refine emit_cnt ct_alen (by kernel_rfl) (by kernel_rfl) rfl (by rfl) (fun v l h => h.2)
      ·refine emit_loop ?_ (by kernel_rfl) rfl (by rfl)
       refine emit_els (σe := aOffsetForLeaderEpochResponse_2) ?_ (by kernel_rfl) rfl (by rfl) (by rfl)
       refine emit_fields (σ := aOffsetForLeaderEpochResponse_2) (i := 0) rfl ?_ ?_ (by rfl)
       ·refine emit_had (σ := aOffsetForLeaderEpochResponse_2) (i := 0) (E := fun _ fl x => leafE 2 (-1) fl x) ?_ (by intro v l h; simp [Zk, Zf] at h; exact hadW_of (by decide) (by omega) (by omega)) (fun v l t _ => by simp [encW])
        refine emit_leaf (σ := aOffsetForLeaderEpochResponse_2) (i := 0) (o := 0) (ty := .int .i16) ?_ (by rfl) (by kernel_rfl) (by kernel_rfl) rfl rfl
        refine emit_call (av_i16 (null := (-1)) (fl := true)) (by kernel_rfl) (by rfl) (fun v l t h => by first | rfl | (obtain ⟨_, h⟩ := h; have h : l = true := h; subst h; rfl) | (obtain ⟨_, h⟩ := h; have h : l = false := h; subst h; rfl))
       ·refine emit_fields (σ := aOffsetForLeaderEpochResponse_2) (i := 1) rfl ?_ ?_ (by rfl)
        ·refine emit_had (σ := aOffsetForLeaderEpochResponse_2) (i := 1) (E := fun _ fl x => leafE 3 (-1) fl x) ?_ (by intro v l h; simp [Zk, Zf] at h; exact hadW_of (by decide) (by omega) (by omega)) (fun v l t _ => by simp [encW])
         refine emit_leaf (σ := aOffsetForLeaderEpochResponse_2) (i := 1) (o := 1) (ty := .int .i32) ?_ (by rfl) (by kernel_rfl) (by kernel_rfl) rfl rfl
         refine emit_call (av_i32 (null := (-1)) (fl := true)) (by kernel_rfl) (by rfl) (fun v l t h => by first | rfl | (obtain ⟨_, h⟩ := h; have h : l = true := h; subst h; rfl) | (obtain ⟨_, h⟩ := h; have h : l = false := h; subst h; rfl))
        ·refine emit_fields (σ := aOffsetForLeaderEpochResponse_2) (i := 2) rfl ?_ ?_ (by rfl)
         ·refine emit_cond (rs := [14]) (tstw_geq (by rfl)) ?_ ?_ (preH_stable (σ := aOffsetForLeaderEpochResponse_2) (i := 2)) (by rfl)
          ·refine emit_had (σ := aOffsetForLeaderEpochResponse_2) (i := 2) (E := fun _ fl x => leafE 3 (-1) fl x) ?_ (by intro v l h; simp [Zk, Zf] at h; exact hadW_of (by decide) (by omega) (by omega)) (fun v l t _ => by simp [encW])
           refine emit_leaf (σ := aOffsetForLeaderEpochResponse_2) (i := 2) (o := 2) (ty := .int .i32) ?_ (by rfl) (by kernel_rfl) (by kernel_rfl) rfl rfl
           refine emit_call (av_i32 (null := (-1)) (fl := true)) (by kernel_rfl) (by rfl) (fun v l t h => by first | rfl | (obtain ⟨_, h⟩ := h; have h : l = true := h; subst h; rfl) | (obtain ⟨_, h⟩ := h; have h : l = false := h; subst h; rfl))
          ·exact emit_lacks (by intro v l h; simp [Zk, Zf] at h; exact hadW_not (by omega))
         ·refine emit_fields (σ := aOffsetForLeaderEpochResponse_2) (i := 3) rfl ?_ ?_ (by rfl)
          ·refine emit_had (σ := aOffsetForLeaderEpochResponse_2) (i := 3) (E := fun _ fl x => leafE 4 (-1) fl x) ?_ (by intro v l h; simp [Zk, Zf] at h; exact hadW_of (by decide) (by omega) (by omega)) (fun v l t _ => by simp [encW])
           refine emit_leaf (σ := aOffsetForLeaderEpochResponse_2) (i := 3) (o := 3) (ty := .int .i64) ?_ (by rfl) (by kernel_rfl) (by kernel_rfl) rfl rfl
           refine emit_call (av_i64 (null := (-1)) (fl := true)) (by kernel_rfl) (by rfl) (fun v l t h => by first | rfl | (obtain ⟨_, h⟩ := h; have h : l = true := h; subst h; rfl) | (obtain ⟨_, h⟩ := h; have h : l = false := h; subst h; rfl))
          ·refine emit_tags ?_ ?_ (by rfl) (by rfl) (by rfl)
           ·refine emit_tagn (σ := aOffsetForLeaderEpochResponse_2) (o := 4) ?_ ?_ ?_ ?_ ?_ ?_ ?_ <;> first | rfl | decide | kernel_rfl
           ·refine emit_tage (σ := aOffsetForLeaderEpochResponse_2) (o := 4) ?_ ?_ ?_ ?_ ?_ <;> first | rfl | decide | kernel_rfl
     ·refine emit_tags ?_ ?_ (by rfl) (by rfl) (by rfl)
      ·refine emit_tagn (σ := aOffsetForLeaderEpochResponse_1) (o := 2) ?_ ?_ ?_ ?_ ?_ ?_ ?_ <;> first | rfl | decide | kernel_rfl
      ·refine emit_tage (σ := aOffsetForLeaderEpochResponse_1) (o := 2) ?_ ?_ ?_ ?_ ?_ <;> first | rfl | decide | kernel_rfl
  ·refine emitw_tags ?_ (emitw_end (by rfl))
   refine emit_tags ?_ ?_ (by rfl) (by rfl) (by rfl)
   ·refine emit_tagn (σ := aOffsetForLeaderEpochResponse) (o := 3) ?_ ?_ ?_ ?_ ?_ ?_ ?_ <;> first | rfl | decide | kernel_rfl
   ·refine emit_tage (σ := aOffsetForLeaderEpochResponse) (o := 3) ?_ ?_ ?_ ?_ ?_ <;> first | rfl | decide | kernel_rfl
end Go.Proofs.Ytmehfgiadapekaa
set_option linter.unusedSimpArgs false
set_option linter.unusedVariables false
namespace Go.Proofs.Ytmehfgiadapekaa
open Go Go.RowKit
abbrev gOffsetForLeaderEpochResponseTopicPartition : St := ⟨0, .cons 0 (.int .i16) (.cons 1 (.int .i32) (.cons 2 (.int .i32) (.cons 3 (.int .i64) .nil))), none, 5⟩
abbrev ft_OffsetForLeaderEpochResponseTopicPartition : List FD := [.mk 2 0 (-1) (-1) (-1) 0 0 [], .mk 3 0 (-1) (-1) (-1) 0 0 [], .mk 3 1 (-1) (-1) (-1) (-1) 0 [], .mk 4 0 (-1) (-1) (-1) (-1) 0 []]
set_option maxRecDepth 100000 in
theorem mk_OffsetForLeaderEpochResponseTopicPartition : ValC Try.prog 185 (.struct gOffsetForLeaderEpochResponseTopicPartition.lay (some 4) 5) (fun y => .part (fillsW ft_OffsetForLeaderEpochResponseTopicPartition 0 y) y.U) (fun y => goksW ft_OffsetForLeaderEpochResponseTopicPartition 0 y /\ UOk y.U) := by
 refine make_top (z := .agg #[.int .i16 0, .int .i32 0, .int .i32 0, .int .i64 0, .map none]) (T := 146) Try.func185 rfl rfl rfl (by decide) rfl (by decide) (by kernel_rfl) rfl (fun w F => ?_) rfl (by kernel_rfl) ?_
 ·exact Lay.zero_rep gOffsetForLeaderEpochResponseTopicPartition.lay _ (by repeat' (first | rfl | trivial | apply And.intro))
 ·refine rest_cons ?_ ?_
  ·exact fst_mono (fst_make (mids := [_, _]) (i := 0) (j := 0) (o := 0) (k := 0) (T := 146) (ty := .int .i16) iat_C (by kernel_rfl) (by kernel_rfl) (val_num (kd := .i16) (by kernel_rfl) (by kernel_rfl) (by kernel_rfl) (by kernel_rfl)) rfl (by kernel_rfl) (by kernel_rfl) (by kernel_rfl) (by kernel_rfl) (by kernel_rfl)) rfl (fun _ _ => fk_i16) (fun _ h => trivial)
  refine rest_cons ?_ ?_
  ·exact fst_mono (fst_make (mids := [_, _]) (i := 1) (j := 1) (o := 1) (k := 1) (T := 146) (ty := .int .i32) iat_C (by kernel_rfl) (by kernel_rfl) (val_num (kd := .i32) (by kernel_rfl) (by kernel_rfl) (by kernel_rfl) (by kernel_rfl)) rfl (by kernel_rfl) (by kernel_rfl) (by kernel_rfl) (by kernel_rfl) (by kernel_rfl)) rfl (fun _ _ => fk_i32) (fun _ h => trivial)
  refine rest_cons ?_ ?_
  ·exact fst_mono (fst_make (mids := [_, _]) (i := 2) (j := 2) (o := 2) (k := 2) (T := 146) (ty := .int .i32) iat_C (by kernel_rfl) (by kernel_rfl) (val_num (kd := .i32) (by kernel_rfl) (by kernel_rfl) (by kernel_rfl) (by kernel_rfl)) rfl (by kernel_rfl) (by kernel_rfl) (by kernel_rfl) (by kernel_rfl) (by kernel_rfl)) rfl (fun _ _ => fk_i32) (fun _ h => trivial)
  refine rest_cons ?_ ?_
  ·exact fst_mono (fst_make (mids := [_]) (i := 3) (j := 3) (o := 3) (k := 3) (T := 146) (ty := .int .i64) iat_C (by kernel_rfl) (by kernel_rfl) (val_i64 (by kernel_rfl) (by kernel_rfl)) rfl (by kernel_rfl) (by kernel_rfl) (by kernel_rfl) (by kernel_rfl) (by kernel_rfl)) rfl (fun _ _ => fk_i64) (fun _ h => trivial)
  refine rest_ret (T := 146) rfl ?_ rfl (by kernel_rfl) (by kernel_rfl) (by kernel_rfl) (by kernel_rfl) rfl (by kernel_rfl)
  exact tags_set rfl (by kernel_rfl) (by kernel_rfl) (by kernel_rfl) rfl (by kernel_rfl) (by kernel_rfl) (by kernel_rfl) (tag_make (T := 146) (kt := 4) (TG := 64) setTag_spec (by kernel_rfl) (by kernel_rfl) (by kernel_rfl) (by kernel_rfl) (by kernel_rfl) (by kernel_rfl) (by kernel_rfl) (by kernel_rfl)) (by kernel_rfl)
abbrev gOffsetForLeaderEpochResponseTopic : St := ⟨0, .cons 0 .str (.cons 1 (.list (.struct (.cons 0 (.int .i16) (.cons 1 (.int .i32) (.cons 2 (.int .i32) (.cons 3 (.int .i64) .nil)))) (some 4) 5) 5) .nil), none, 3⟩
abbrev ft_OffsetForLeaderEpochResponseTopic : List FD := [.mk 8 0 (-1) (-1) (-1) 0 0 [], .mk 11 0 (-1) (-1) (-1) 0 10 [.mk 2 0 (-1) (-1) (-1) 0 0 [], .mk 3 0 (-1) (-1) (-1) 0 0 [], .mk 3 1 (-1) (-1) (-1) (-1) 0 [], .mk 4 0 (-1) (-1) (-1) (-1) 0 []]]
set_option maxRecDepth 100000 in
theorem mk_OffsetForLeaderEpochResponseTopic : ValC Try.prog 128 (.struct gOffsetForLeaderEpochResponseTopic.lay (some 2) 3) (fun y => .part (fillsW ft_OffsetForLeaderEpochResponseTopic 0 y) y.U) (fun y => goksW ft_OffsetForLeaderEpochResponseTopic 0 y /\ UOk y.U) := by
 refine make_top (z := .agg #[.string (str []), .slice none 0 0, .map none]) (T := 137) Try.func128 rfl rfl rfl (by decide) rfl (by decide) (by kernel_rfl) rfl (fun w F => ?_) rfl (by kernel_rfl) ?_
 ·exact Lay.zero_rep gOffsetForLeaderEpochResponseTopic.lay _ (by repeat' (first | rfl | trivial | apply And.intro))
 ·refine rest_cons ?_ ?_
  ·exact fst_mono (fst_make (mids := [_, _]) (i := 0) (j := 0) (o := 0) (k := 0) (T := 137) (ty := .str) iat_C (by kernel_rfl) (by kernel_rfl) (val_text (eb := 5) (by kernel_rfl) (by kernel_rfl) (by kernel_rfl)) rfl (by kernel_rfl) (by kernel_rfl) (by kernel_rfl) (by kernel_rfl) (by kernel_rfl)) rfl (fun _ _ => fk_str (by decide)) (fun _ h => fo_text h)
  refine rest_cons ?_ ?_
  ·exact fst_mono (fst_list (i := 1) (j := 1) (o := 1) (e := 146) (sz := 5) (ety := .struct (.cons 0 (.int .i16) (.cons 1 (.int .i32) (.cons 2 (.int .i32) (.cons 3 (.int .i64) .nil)))) (some 4) 5) iat_C (by kernel_rfl) (by kernel_rfl) (by kernel_rfl) (by kernel_rfl) (by kernel_rfl) rfl (by kernel_rfl) rfl (mk_make (T := 137) (k := 1) iat_C (by kernel_rfl) (by kernel_rfl) (by kernel_rfl) (by kernel_rfl) rfl (by kernel_rfl) (by kernel_rfl) (by kernel_rfl) rfl (by kernel_rfl) (by kernel_rfl) (by kernel_rfl)) (app_make (T := 137) (k := 1) (by kernel_rfl) (by kernel_rfl) mk_OffsetForLeaderEpochResponseTopicPartition (by kernel_rfl) (by kernel_rfl) (by kernel_rfl) (by kernel_rfl) (by kernel_rfl) (by kernel_rfl) (by kernel_rfl) rfl (by kernel_rfl)) (by kernel_rfl) rfl rfl (by kernel_rfl) (by kernel_rfl)) (by simp [zeroW]) (fun _ _ => fk_list) (fun _ h => fo_list h)
  refine rest_ret (T := 137) rfl ?_ rfl (by kernel_rfl) (by kernel_rfl) (by kernel_rfl) (by kernel_rfl) rfl (by kernel_rfl)
  exact tags_set rfl (by kernel_rfl) (by kernel_rfl) (by kernel_rfl) rfl (by kernel_rfl) (by kernel_rfl) (by kernel_rfl) (tag_make (T := 137) (kt := 2) (TG := 64) setTag_spec (by kernel_rfl) (by kernel_rfl) (by kernel_rfl) (by kernel_rfl) (by kernel_rfl) (by kernel_rfl) (by kernel_rfl) (by kernel_rfl)) (by kernel_rfl)
abbrev gOffsetForLeaderEpochResponse : St := ⟨0, .cons 0 (.int .i16) (.cons 1 (.int .i32) (.cons 2 (.list (.struct (.cons 0 .str (.cons 1 (.list (.struct (.cons 0 (.int .i16) (.cons 1 (.int .i32) (.cons 2 (.int .i32) (.cons 3 (.int .i64) .nil)))) (some 4) 5) 5) .nil)) (some 2) 3) 3) .nil)), none, 4⟩
set_option maxRecDepth 100000 in
theorem fill_OffsetForLeaderEpochResponse : FillC Try.prog 58 gOffsetForLeaderEpochResponse 3 Zg := by
 refine fill_top Try.func58 rfl rfl rfl (by decide) rfl (by decide) ?_
 refine rest_cons ?_ ?_
 ·exact fst_mono (fst_fill (mids := [_, _]) (i := 1) (j := 0) (o := 1) (k := 1) (T := 57) (ty := .int .i32) iat_C (by kernel_rfl) (by kernel_rfl) (val_num (kd := .i32) (by kernel_rfl) (by kernel_rfl) (by kernel_rfl) (by kernel_rfl)) rfl (by kernel_rfl) (by kernel_rfl) (by kernel_rfl) (by kernel_rfl) (by kernel_rfl)) rfl (fun _ _ => fk_i32) (fun _ h => trivial)
 refine rest_cons ?_ ?_
 ·exact fst_mono (fst_list (i := 2) (j := 1) (o := 2) (e := 137) (sz := 3) (ety := .struct (.cons 0 .str (.cons 1 (.list (.struct (.cons 0 (.int .i16) (.cons 1 (.int .i32) (.cons 2 (.int .i32) (.cons 3 (.int .i64) .nil)))) (some 4) 5) 5) .nil)) (some 2) 3) iat_C (by kernel_rfl) (by kernel_rfl) (by kernel_rfl) (by kernel_rfl) (by kernel_rfl) rfl (by kernel_rfl) rfl (mk_fill (T := 57) (k := 2) iat_C (by kernel_rfl) (by kernel_rfl) (by kernel_rfl) (by kernel_rfl) rfl (by kernel_rfl) (by kernel_rfl) (by kernel_rfl) rfl (by kernel_rfl) (by kernel_rfl) (by kernel_rfl)) (app_fill (T := 57) (k := 2) (by kernel_rfl) (by kernel_rfl) mk_OffsetForLeaderEpochResponseTopic (by kernel_rfl) (by kernel_rfl) (by kernel_rfl) (by kernel_rfl) (by kernel_rfl) (by kernel_rfl) (by kernel_rfl) rfl (by kernel_rfl)) (by kernel_rfl) rfl rfl (by kernel_rfl) (by kernel_rfl)) (by simp [zeroW]) (fun _ _ => fk_list) (fun _ h => fo_list h)
 refine rest_tags rfl ?_
 exact tags_set rfl (by kernel_rfl) (by kernel_rfl) (by kernel_rfl) rfl (by kernel_rfl) (by kernel_rfl) (by kernel_rfl) (tag_fill (T := 57) (kt := 3) (TG := 64) (by kernel_rfl) setTag_spec (by kernel_rfl) (by kernel_rfl) (by kernel_rfl) (by kernel_rfl) (by kernel_rfl) (by kernel_rfl) (by kernel_rfl) (by kernel_rfl)) (by kernel_rfl)
theorem set_OffsetForLeaderEpochResponse : SetC Try.prog 57 { gOffsetForLeaderEpochResponse with tg := some 3 } :=
 set_rule Try.func57 rfl rfl rfl (by kernel_rfl) (by kernel_rfl) rfl rfl rfl (by decide)
theorem make_OffsetForLeaderEpochResponse : MakeC Try.prog 19 Zf Zk Zg := by
 refine make_rule (σ := gOffsetForLeaderEpochResponse) (σa := aOffsetForLeaderEpochResponse) (ot := 3) (zc := #[.int .i16 0, .int .i32 0, .slice none 0 0, .map none]) Try.func19 rfl rfl rfl (by kernel_rfl) (by kernel_rfl) (by kernel_rfl) (by kernel_rfl) (by kernel_rfl) (by kernel_rfl) (by kernel_rfl) (by decide) (fun w F => ?_) rfl set_OffsetForLeaderEpochResponse fill_OffsetForLeaderEpochResponse app_OffsetForLeaderEpochResponse rfl rfl rfl
 exact Lay.zero_rep gOffsetForLeaderEpochResponse.lay _ (by repeat' (first | rfl | trivial | apply And.intro))
end Go.Proofs.Ytmehfgiadapekaa
