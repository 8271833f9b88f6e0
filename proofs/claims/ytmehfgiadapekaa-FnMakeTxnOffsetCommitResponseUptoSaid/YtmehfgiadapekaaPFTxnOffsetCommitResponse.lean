/-
  TxnOffsetCommitResponse: AppendTo.
  TxnOffsetCommitResponse: its fields are set.
-/
import Derived.Test.YtmehfgiadapekaaPYu
import Derived.Test.YtmehfgiadapekaaPZd
import Derived.Test.YtmehfgiadapekaaPZx
set_option linter.unusedSimpArgs false
set_option linter.unusedVariables false
namespace Go.Proofs.Ytmehfgiadapekaa
open Go Go.RowKit
abbrev Zg : List FD := [.mk 3 0 (-1) (-1) (-1) 0 0 [], .mk 11 0 (-1) (-1) (-1) 0 10 [.mk 8 0 5 (-1) (-1) 0 0 [], .mk 7 6 (-1) (-1) (-1) 0 0 [], .mk 11 0 (-1) (-1) (-1) 0 10 [.mk 3 0 (-1) (-1) (-1) 0 0 [], .mk 2 0 (-1) (-1) (-1) 0 0 []]]]
abbrev Zf : Int -> Bool := fun ver => decide ((3 : Int) <= ver)
abbrev Zk : OkV := fun ver fl => 0 <= ver /\ ver <= 6 /\ fl = Zf ver
abbrev aTxnOffsetCommitResponse : St := ⟨0, .cons 0 (.int .i16) (.cons 1 (.int .i32) (.cons 2 (.list (.struct (.cons 0 .str (.cons 1 .uuid (.cons 17 (.list (.struct (.cons 0 (.int .i32) (.cons 1 (.int .i16) .nil)) (some 2) 3) 3) .nil))) (some 18) 19) 19) .nil)), some 3, 4⟩
abbrev aTxnOffsetCommitResponse_1 : St := ⟨10, .cons 0 .str (.cons 1 .uuid (.cons 17 (.list (.struct (.cons 0 (.int .i32) (.cons 1 (.int .i16) .nil)) (some 2) 3) 3) .nil)), some 18, 19⟩
abbrev aTxnOffsetCommitResponse_2 : St := ⟨15, .cons 0 (.int .i32) (.cons 1 (.int .i16) .nil), some 2, 3⟩
set_option maxRecDepth 100000 in
theorem app_TxnOffsetCommitResponse : AppToC Try.prog 89 aTxnOffsetCommitResponse (fun ver => decide ((3 : Int) <= ver)) Zk Zg := by
 refine app_top (m := 18) (N := 160) Try.func89 rfl rfl (by kernel_rfl) (by kernel_rfl) rfl rfl (by decide) (by decide) rfl ?_
 refine emitw_fields (σ := aTxnOffsetCommitResponse) (i := 1) rfl ?_ ?_ (by rfl)
 ·refine emit_had (σ := aTxnOffsetCommitResponse) (i := 1) (E := fun _ fl x => leafE 3 (-1) fl x) ?_ (by intro v l h; simp [Zk, Zf] at h; exact hadW_of (by decide) (by omega) (by omega)) (fun v l t _ => by simp [encW])
  refine emit_leaf (σ := aTxnOffsetCommitResponse) (i := 1) (o := 1) (ty := .int .i32) ?_ (by rfl) (by kernel_rfl) (by kernel_rfl) rfl rfl
  refine emit_call (av_i32 (null := (-1)) (fl := true)) (by kernel_rfl) (by rfl) (fun v l t h => by first | rfl | (obtain ⟨_, h⟩ := h; have h : l = true := h; subst h; rfl) | (obtain ⟨_, h⟩ := h; have h : l = false := h; subst h; rfl))
 ·refine emitw_fields (σ := aTxnOffsetCommitResponse) (i := 2) rfl ?_ ?_ (by rfl)
  ·refine emit_had (σ := aTxnOffsetCommitResponse) (i := 2) (E := listE false (structW ([.mk 8 0 5 (-1) (-1) 0 0 [], .mk 7 6 (-1) (-1) (-1) 0 0 [], .mk 11 0 (-1) (-1) (-1) 0 10 [.mk 3 0 (-1) (-1) (-1) 0 0 [], .mk 2 0 (-1) (-1) (-1) 0 0 []]]))) ?_ (by intro v l h; simp [Zk, Zf] at h; exact hadW_of (by decide) (by omega) (by omega)) (fun v l t _ => by simp [encW, listE] <;> rfl)
   refine emit_leaf (σ := aTxnOffsetCommitResponse) (i := 2) (o := 2) (ty := .list (.struct (.cons 0 .str (.cons 1 .uuid (.cons 17 (.list (.struct (.cons 0 (.int .i32) (.cons 1 (.int .i16) .nil)) (some 2) 3) 3) .nil))) (some 18) 19) 19) ?_ (by rfl) (by kernel_rfl) (by kernel_rfl) rfl rfl
   refine emit_list ?_ ?_ (by rfl)
   ·refine emit_cond (rs := [_]) (tstw_flex (by rfl)) ?_ ?_ preC_stable (by rfl)
    ·refine emit_cnt ct_calen (by kernel_rfl) (by kernel_rfl) rfl (by rfl) (fun v l h => h.2)
    ·refine emit_cnt ct_alen (by kernel_rfl) (by kernel_rfl) rfl (by rfl) (fun v l h => h.2)
   ·refine emit_loop ?_ (by kernel_rfl) rfl (by rfl)
    refine emit_els (σe := aTxnOffsetCommitResponse_1) ?_ (by kernel_rfl) rfl (by rfl) (by rfl)
    refine emit_fields (σ := aTxnOffsetCommitResponse_1) (i := 0) rfl ?_ ?_ (by rfl)
    ·refine emit_cond (rs := [10]) (tstw_and (by rfl)) ?_ ?_ (preH_stable (σ := aTxnOffsetCommitResponse_1) (i := 0)) (by rfl)
     ·refine emit_had (σ := aTxnOffsetCommitResponse_1) (i := 0) (E := fun _ fl x => leafE 8 (-1) fl x) ?_ (by intro v l h; simp [Zk, Zf] at h; exact hadW_of (by decide) (by omega) (by omega)) (fun v l t _ => by simp [encW])
      refine emit_leaf (σ := aTxnOffsetCommitResponse_1) (i := 0) (o := 0) (ty := .str) ?_ (by rfl) (by kernel_rfl) (by kernel_rfl) rfl rfl
      refine emit_cond (rs := [_]) (tstw_flex (by rfl)) ?_ ?_ preV_stable (by rfl)
      ·refine emit_call (av_cstr (null := (-1)) (by decide)) (by kernel_rfl) (by rfl) (fun v l t h => by first | rfl | (obtain ⟨_, h⟩ := h; have h : l = true := h; subst h; rfl) | (obtain ⟨_, h⟩ := h; have h : l = false := h; subst h; rfl))
      ·refine emit_call (av_str (null := (-1)) (by decide)) (by kernel_rfl) (by rfl) (fun v l t h => by first | rfl | (obtain ⟨_, h⟩ := h; have h : l = true := h; subst h; rfl) | (obtain ⟨_, h⟩ := h; have h : l = false := h; subst h; rfl))
     ·exact emit_lacks (by intro v l h; simp [Zk, Zf] at h; exact hadW_not (by omega))
    ·refine emit_fields (σ := aTxnOffsetCommitResponse_1) (i := 1) rfl ?_ ?_ (by rfl)
     ·refine emit_cond (rs := [10]) (tstw_geq (by rfl)) ?_ ?_ (preH_stable (σ := aTxnOffsetCommitResponse_1) (i := 1)) (by rfl)
      ·refine emit_had (σ := aTxnOffsetCommitResponse_1) (i := 1) (E := fun _ fl x => leafE 7 (-1) fl x) ?_ (by intro v l h; simp [Zk, Zf] at h; exact hadW_of (by decide) (by omega) (by omega)) (fun v l t _ => by simp [encW])
       exact emit_uuidb (σ := aTxnOffsetCommitResponse_1) (i := 1) (o := 1) (av_uuid (null := (-1)) (fl := true)) (by kernel_rfl) (fun v l t h => by first | rfl | (obtain ⟨_, h⟩ := h; have h : l = true := h; subst h; rfl) | (obtain ⟨_, h⟩ := h; have h : l = false := h; subst h; rfl)) (by rfl) (by kernel_rfl) (by kernel_rfl) rfl rfl (by kernel_rfl) rfl
      ·exact emit_lacks (by intro v l h; simp [Zk, Zf] at h; exact hadW_not (by omega))
     ·refine emit_fields (σ := aTxnOffsetCommitResponse_1) (i := 2) rfl ?_ ?_ (by rfl)
      ·refine emit_had (σ := aTxnOffsetCommitResponse_1) (i := 2) (E := listE false (structW ([.mk 3 0 (-1) (-1) (-1) 0 0 [], .mk 2 0 (-1) (-1) (-1) 0 0 []]))) ?_ (by intro v l h; simp [Zk, Zf] at h; exact hadW_of (by decide) (by omega) (by omega)) (fun v l t _ => by simp [encW, listE] <;> rfl)
       refine emit_leaf (σ := aTxnOffsetCommitResponse_1) (i := 2) (o := 17) (ty := .list (.struct (.cons 0 (.int .i32) (.cons 1 (.int .i16) .nil)) (some 2) 3) 3) ?_ (by rfl) (by kernel_rfl) (by kernel_rfl) rfl rfl
       refine emit_list ?_ ?_ (by rfl)
       ·refine emit_cond (rs := [_]) (tstw_flex (by rfl)) ?_ ?_ preC_stable (by rfl)
        ·refine emit_cnt ct_calen (by kernel_rfl) (by kernel_rfl) rfl (by rfl) (fun v l h => h.2)
        ·refine emit_cnt ct_alen (by kernel_rfl) (by kernel_rfl) rfl (by rfl) (fun v l h => h.2)
       ·refine emit_loop ?_ (by kernel_rfl) rfl (by rfl)
        refine emit_els (σe := aTxnOffsetCommitResponse_2) ?_ (by kernel_rfl) rfl (by rfl) (by rfl)
        refine emit_fields (σ := aTxnOffsetCommitResponse_2) (i := 0) rfl ?_ ?_ (by rfl)
        ·refine emit_had (σ := aTxnOffsetCommitResponse_2) (i := 0) (E := fun _ fl x => leafE 3 (-1) fl x) ?_ (by intro v l h; simp [Zk, Zf] at h; exact hadW_of (by decide) (by omega) (by omega)) (fun v l t _ => by simp [encW])
         refine emit_leaf (σ := aTxnOffsetCommitResponse_2) (i := 0) (o := 0) (ty := .int .i32) ?_ (by rfl) (by kernel_rfl) (by kernel_rfl) rfl rfl
         refine emit_call (av_i32 (null := (-1)) (fl := true)) (by kernel_rfl) (by rfl) (fun v l t h => by first | rfl | (obtain ⟨_, h⟩ := h; have h : l = true := h; subst h; rfl) | (obtain ⟨_, h⟩ := h; have h : l = false := h; subst h; rfl))
        ·refine emit_fields (σ := aTxnOffsetCommitResponse_2) (i := 1) rfl ?_ ?_ (by rfl)
         ·refine emit_had (σ := aTxnOffsetCommitResponse_2) (i := 1) (E := fun _ fl x => leafE 2 (-1) fl x) ?_ (by intro v l h; simp [Zk, Zf] at h; exact hadW_of (by decide) (by omega) (by omega)) (fun v l t _ => by simp [encW])
          refine emit_leaf (σ := aTxnOffsetCommitResponse_2) (i := 1) (o := 1) (ty := .int .i16) ?_ (by rfl) (by kernel_rfl) (by kernel_rfl) rfl rfl
          refine emit_call (av_i16 (null := (-1)) (fl := true)) (by kernel_rfl) (by rfl) (fun v l t h => by first | rfl | (obtain ⟨_, h⟩ := h; have h : l = true := h; subst h; rfl) | (obtain ⟨_, h⟩ := h; have h : l = false := h; subst h; rfl))
         ·refine emit_tags ?_ ?_ (by rfl) (by rfl) (by rfl)
          ·refine emit_tagn (σ := aTxnOffsetCommitResponse_2) (o := 2) ?_ ?_ ?_ ?_ ?_ ?_ ?_ <;> first | rfl | decide | kernel_rfl
          ·refine emit_tage (σ := aTxnOffsetCommitResponse_2) (o := 2) ?_ ?_ ?_ ?_ ?_ <;> first | rfl | decide | kernel_rfl
      ·refine emit_tags ?_ ?_ (by rfl) (by rfl) (by rfl)
       ·refine emit_tagn (σ := aTxnOffsetCommitResponse_1) (o := 18) ?_ ?_ ?_ ?_ ?_ ?_ ?_ <;> first | rfl | decide | kernel_rfl
       ·refine emit_tage (σ := aTxnOffsetCommitResponse_1) (o := 18) ?_ ?_ ?_ ?_ ?_ <;> first | rfl | decide | kernel_rfl
  ·refine emitw_tags ?_ (emitw_end (by rfl))
   refine emit_tags ?_ ?_ (by rfl) (by rfl) (by rfl)
   ·refine emit_tagn (σ := aTxnOffsetCommitResponse) (o := 3) ?_ ?_ ?_ ?_ ?_ ?_ ?_ <;> first | rfl | decide | kernel_rfl
   ·refine emit_tage (σ := aTxnOffsetCommitResponse) (o := 3) ?_ ?_ ?_ ?_ ?_ <;> first | rfl | decide | kernel_rfl
end Go.Proofs.Ytmehfgiadapekaa
set_option linter.unusedSimpArgs false
set_option linter.unusedVariables false
namespace Go.Proofs.Ytmehfgiadapekaa
open Go Go.RowKit
abbrev gTxnOffsetCommitResponseTopicPartition : St := ⟨0, .cons 0 (.int .i32) (.cons 1 (.int .i16) .nil), none, 3⟩
abbrev ft_TxnOffsetCommitResponseTopicPartition : List FD := [.mk 3 0 (-1) (-1) (-1) 0 0 [], .mk 2 0 (-1) (-1) (-1) 0 0 []]
set_option maxRecDepth 100000 in
theorem mk_TxnOffsetCommitResponseTopicPartition : ValC Try.prog 196 (.struct gTxnOffsetCommitResponseTopicPartition.lay (some 2) 3) (fun y => .part (fillsW ft_TxnOffsetCommitResponseTopicPartition 0 y) y.U) (fun y => goksW ft_TxnOffsetCommitResponseTopicPartition 0 y /\ UOk y.U) := by
 refine make_top (z := .agg #[.int .i32 0, .int .i16 0, .map none]) (T := 192) Try.func196 rfl rfl rfl (by decide) rfl (by decide) (by kernel_rfl) rfl (fun w F => ?_) rfl (by kernel_rfl) ?_
 ·exact Lay.zero_rep gTxnOffsetCommitResponseTopicPartition.lay _ (by repeat' (first | rfl | trivial | apply And.intro))
 ·refine rest_cons ?_ ?_
  ·exact fst_mono (fst_make (mids := [_, _]) (i := 0) (j := 0) (o := 0) (k := 0) (T := 192) (ty := .int .i32) iat_C (by kernel_rfl) (by kernel_rfl) (val_num (kd := .i32) (by kernel_rfl) (by kernel_rfl) (by kernel_rfl) (by kernel_rfl)) rfl (by kernel_rfl) (by kernel_rfl) (by kernel_rfl) (by kernel_rfl) (by kernel_rfl)) rfl (fun _ _ => fk_i32) (fun _ h => trivial)
  refine rest_cons ?_ ?_
  ·exact fst_mono (fst_make (mids := [_, _]) (i := 1) (j := 1) (o := 1) (k := 1) (T := 192) (ty := .int .i16) iat_C (by kernel_rfl) (by kernel_rfl) (val_num (kd := .i16) (by kernel_rfl) (by kernel_rfl) (by kernel_rfl) (by kernel_rfl)) rfl (by kernel_rfl) (by kernel_rfl) (by kernel_rfl) (by kernel_rfl) (by kernel_rfl)) rfl (fun _ _ => fk_i16) (fun _ h => trivial)
  refine rest_ret (T := 192) rfl ?_ rfl (by kernel_rfl) (by kernel_rfl) (by kernel_rfl) (by kernel_rfl) rfl (by kernel_rfl)
  exact tags_set rfl (by kernel_rfl) (by kernel_rfl) (by kernel_rfl) rfl (by kernel_rfl) (by kernel_rfl) (by kernel_rfl) (tag_make (T := 192) (kt := 2) (TG := 64) setTag_spec (by kernel_rfl) (by kernel_rfl) (by kernel_rfl) (by kernel_rfl) (by kernel_rfl) (by kernel_rfl) (by kernel_rfl) (by kernel_rfl)) (by kernel_rfl)
abbrev gTxnOffsetCommitResponseTopic : St := ⟨0, .cons 0 .str (.cons 1 .uuid (.cons 17 (.list (.struct (.cons 0 (.int .i32) (.cons 1 (.int .i16) .nil)) (some 2) 3) 3) .nil)), none, 19⟩
abbrev ft_TxnOffsetCommitResponseTopic : List FD := [.mk 8 0 5 (-1) (-1) 0 0 [], .mk 7 6 (-1) (-1) (-1) 0 0 [], .mk 11 0 (-1) (-1) (-1) 0 10 [.mk 3 0 (-1) (-1) (-1) 0 0 [], .mk 2 0 (-1) (-1) (-1) 0 0 []]]
set_option maxRecDepth 100000 in
theorem mk_TxnOffsetCommitResponseTopic : ValC Try.prog 164 (.struct gTxnOffsetCommitResponseTopic.lay (some 18) 19) (fun y => .part (fillsW ft_TxnOffsetCommitResponseTopic 0 y) y.U) (fun y => goksW ft_TxnOffsetCommitResponseTopic 0 y /\ UOk y.U) := by
 refine make_top (z := .agg #[.string (str []), .int .u8 0, .int .u8 0, .int .u8 0, .int .u8 0, .int .u8 0, .int .u8 0, .int .u8 0, .int .u8 0, .int .u8 0, .int .u8 0, .int .u8 0, .int .u8 0, .int .u8 0, .int .u8 0, .int .u8 0, .int .u8 0, .slice none 0 0, .map none]) (T := 188) Try.func164 rfl rfl rfl (by decide) rfl (by decide) (by kernel_rfl) rfl (fun w F => ?_) rfl (by kernel_rfl) ?_
 ·exact Lay.zero_rep gTxnOffsetCommitResponseTopic.lay _ (by repeat' (first | rfl | trivial | apply And.intro))
 ·refine rest_cons ?_ ?_
  ·exact fst_mono (fst_make (mids := [_, _]) (i := 0) (j := 0) (o := 0) (k := 0) (T := 188) (ty := .str) iat_C (by kernel_rfl) (by kernel_rfl) (val_text (eb := 5) (by kernel_rfl) (by kernel_rfl) (by kernel_rfl)) rfl (by kernel_rfl) (by kernel_rfl) (by kernel_rfl) (by kernel_rfl) (by kernel_rfl)) rfl (fun _ _ => fk_str (by decide)) (fun _ h => fo_text h)
  refine rest_cons ?_ ?_
  ·exact fst_mono (fst_make (mids := [_, _]) (i := 1) (j := 1) (o := 1) (k := 1) (T := 188) (ty := .uuid) iat_C (by kernel_rfl) (by kernel_rfl) (val_uuid (by kernel_rfl) sixteen_c (by kernel_rfl) (by kernel_rfl)) rfl (by kernel_rfl) (by kernel_rfl) (by kernel_rfl) (by kernel_rfl) (by kernel_rfl)) rfl (fun _ _ => fk_uuid) (fun _ h => trivial)
  refine rest_cons ?_ ?_
  ·exact fst_mono (fst_list (i := 2) (j := 2) (o := 17) (e := 192) (sz := 3) (ety := .struct (.cons 0 (.int .i32) (.cons 1 (.int .i16) .nil)) (some 2) 3) iat_C (by kernel_rfl) (by kernel_rfl) (by kernel_rfl) (by kernel_rfl) (by kernel_rfl) rfl (by kernel_rfl) rfl (mk_make (T := 188) (k := 2) iat_C (by kernel_rfl) (by kernel_rfl) (by kernel_rfl) (by kernel_rfl) rfl (by kernel_rfl) (by kernel_rfl) (by kernel_rfl) rfl (by kernel_rfl) (by kernel_rfl) (by kernel_rfl)) (app_make (T := 188) (k := 2) (by kernel_rfl) (by kernel_rfl) mk_TxnOffsetCommitResponseTopicPartition (by kernel_rfl) (by kernel_rfl) (by kernel_rfl) (by kernel_rfl) (by kernel_rfl) (by kernel_rfl) (by kernel_rfl) rfl (by kernel_rfl)) (by kernel_rfl) rfl rfl (by kernel_rfl) (by kernel_rfl)) (by simp [zeroW]) (fun _ _ => fk_list) (fun _ h => fo_list h)
  refine rest_ret (T := 188) rfl ?_ rfl (by kernel_rfl) (by kernel_rfl) (by kernel_rfl) (by kernel_rfl) rfl (by kernel_rfl)
  exact tags_set rfl (by kernel_rfl) (by kernel_rfl) (by kernel_rfl) rfl (by kernel_rfl) (by kernel_rfl) (by kernel_rfl) (tag_make (T := 188) (kt := 3) (TG := 64) setTag_spec (by kernel_rfl) (by kernel_rfl) (by kernel_rfl) (by kernel_rfl) (by kernel_rfl) (by kernel_rfl) (by kernel_rfl) (by kernel_rfl)) (by kernel_rfl)
abbrev gTxnOffsetCommitResponse : St := ⟨0, .cons 0 (.int .i16) (.cons 1 (.int .i32) (.cons 2 (.list (.struct (.cons 0 .str (.cons 1 .uuid (.cons 17 (.list (.struct (.cons 0 (.int .i32) (.cons 1 (.int .i16) .nil)) (some 2) 3) 3) .nil))) (some 18) 19) 19) .nil)), none, 4⟩
set_option maxRecDepth 100000 in
theorem fill_TxnOffsetCommitResponse : FillC Try.prog 88 gTxnOffsetCommitResponse 3 Zg := by
 refine fill_top Try.func88 rfl rfl rfl (by decide) rfl (by decide) ?_
 refine rest_cons ?_ ?_
 ·exact fst_mono (fst_fill (mids := [_, _]) (i := 1) (j := 0) (o := 1) (k := 1) (T := 95) (ty := .int .i32) iat_C (by kernel_rfl) (by kernel_rfl) (val_num (kd := .i32) (by kernel_rfl) (by kernel_rfl) (by kernel_rfl) (by kernel_rfl)) rfl (by kernel_rfl) (by kernel_rfl) (by kernel_rfl) (by kernel_rfl) (by kernel_rfl)) rfl (fun _ _ => fk_i32) (fun _ h => trivial)
 refine rest_cons ?_ ?_
 ·exact fst_mono (fst_list (i := 2) (j := 1) (o := 2) (e := 188) (sz := 19) (ety := .struct (.cons 0 .str (.cons 1 .uuid (.cons 17 (.list (.struct (.cons 0 (.int .i32) (.cons 1 (.int .i16) .nil)) (some 2) 3) 3) .nil))) (some 18) 19) iat_C (by kernel_rfl) (by kernel_rfl) (by kernel_rfl) (by kernel_rfl) (by kernel_rfl) rfl (by kernel_rfl) rfl (mk_fill (T := 95) (k := 2) iat_C (by kernel_rfl) (by kernel_rfl) (by kernel_rfl) (by kernel_rfl) rfl (by kernel_rfl) (by kernel_rfl) (by kernel_rfl) rfl (by kernel_rfl) (by kernel_rfl) (by kernel_rfl)) (app_fill (T := 95) (k := 2) (by kernel_rfl) (by kernel_rfl) mk_TxnOffsetCommitResponseTopic (by kernel_rfl) (by kernel_rfl) (by kernel_rfl) (by kernel_rfl) (by kernel_rfl) (by kernel_rfl) (by kernel_rfl) rfl (by kernel_rfl)) (by kernel_rfl) rfl rfl (by kernel_rfl) (by kernel_rfl)) (by simp [zeroW]) (fun _ _ => fk_list) (fun _ h => fo_list h)
 refine rest_tags rfl ?_
 exact tags_set rfl (by kernel_rfl) (by kernel_rfl) (by kernel_rfl) rfl (by kernel_rfl) (by kernel_rfl) (by kernel_rfl) (tag_fill (T := 95) (kt := 3) (TG := 64) (by kernel_rfl) setTag_spec (by kernel_rfl) (by kernel_rfl) (by kernel_rfl) (by kernel_rfl) (by kernel_rfl) (by kernel_rfl) (by kernel_rfl) (by kernel_rfl)) (by kernel_rfl)
theorem set_TxnOffsetCommitResponse : SetC Try.prog 87 { gTxnOffsetCommitResponse with tg := some 3 } :=
 set_rule Try.func87 rfl rfl rfl (by kernel_rfl) (by kernel_rfl) rfl rfl rfl (by decide)
theorem make_TxnOffsetCommitResponse : MakeC Try.prog 34 Zf Zk Zg := by
 refine make_rule (σ := gTxnOffsetCommitResponse) (σa := aTxnOffsetCommitResponse) (ot := 3) (zc := #[.int .i16 0, .int .i32 0, .slice none 0 0, .map none]) Try.func34 rfl rfl rfl (by kernel_rfl) (by kernel_rfl) (by kernel_rfl) (by kernel_rfl) (by kernel_rfl) (by kernel_rfl) (by kernel_rfl) (by decide) (fun w F => ?_) rfl set_TxnOffsetCommitResponse fill_TxnOffsetCommitResponse app_TxnOffsetCommitResponse rfl rfl rfl
 exact Lay.zero_rep gTxnOffsetCommitResponse.lay _ (by repeat' (first | rfl | trivial | apply And.intro))
end Go.Proofs.Ytmehfgiadapekaa
