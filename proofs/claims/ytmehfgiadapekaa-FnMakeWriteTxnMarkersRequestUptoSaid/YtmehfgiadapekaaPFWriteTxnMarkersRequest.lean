/-
  WriteTxnMarkersRequest: AppendTo.
  WriteTxnMarkersRequest: its fields are set.
-/
import Derived.Test.YtmehfgiadapekaaPZd
import Derived.Test.YtmehfgiadapekaaPZx
set_option linter.unusedSimpArgs false
set_option linter.unusedVariables false
namespace Go.Proofs.Ytmehfgiadapekaa
open Go Go.RowKit
abbrev Zg : List FD := [.mk 11 0 (-1) (-1) (-1) 0 10 [.mk 4 0 (-1) (-1) (-1) 0 0 [], .mk 2 0 (-1) (-1) (-1) 0 0 [], .mk 0 0 (-1) (-1) (-1) 0 0 [], .mk 11 0 (-1) (-1) (-1) 0 10 [.mk 8 0 (-1) (-1) (-1) 0 0 [], .mk 11 0 (-1) (-1) (-1) 0 3 []], .mk 3 0 (-1) (-1) (-1) 0 0 [], .mk 1 2 (-1) (-1) (-1) 0 0 []]]
abbrev Zf : Int -> Bool := fun ver => decide ((1 : Int) <= ver)
abbrev Zk : OkV := fun ver fl => 0 <= ver /\ ver <= 2 /\ fl = Zf ver
abbrev aWriteTxnMarkersRequest : St := ⟨0, .cons 0 (.int .i16) (.cons 1 (.list (.struct (.cons 0 (.int .i64) (.cons 1 (.int .i16) (.cons 2 .bool (.cons 3 (.list (.struct (.cons 0 .str (.cons 1 (.list (.int .i32) 1) .nil)) (some 2) 3) 3) (.cons 4 (.int .i32) (.cons 5 (.int .i8) .nil)))))) (some 6) 7) 7) .nil), some 2, 3⟩
abbrev aWriteTxnMarkersRequest_1 : St := ⟨9, .cons 0 (.int .i64) (.cons 1 (.int .i16) (.cons 2 .bool (.cons 3 (.list (.struct (.cons 0 .str (.cons 1 (.list (.int .i32) 1) .nil)) (some 2) 3) 3) (.cons 4 (.int .i32) (.cons 5 (.int .i8) .nil))))), some 6, 7⟩
abbrev aWriteTxnMarkersRequest_2 : St := ⟨15, .cons 0 .str (.cons 1 (.list (.int .i32) 1) .nil), some 2, 3⟩
set_option maxRecDepth 100000 in
theorem app_WriteTxnMarkersRequest : AppToC Try.prog 108 aWriteTxnMarkersRequest (fun ver => decide ((1 : Int) <= ver)) Zk Zg := by
 refine app_top (m := 22) (N := 191) Try.func108 rfl rfl (by kernel_rfl) (by kernel_rfl) rfl rfl (by decide) (by decide) rfl ?_
 refine emitw_fields (σ := aWriteTxnMarkersRequest) (i := 1) rfl ?_ ?_ (by rfl)
 ·refine emit_had (σ := aWriteTxnMarkersRequest) (i := 1) (E := listE false (structW ([.mk 4 0 (-1) (-1) (-1) 0 0 [], .mk 2 0 (-1) (-1) (-1) 0 0 [], .mk 0 0 (-1) (-1) (-1) 0 0 [], .mk 11 0 (-1) (-1) (-1) 0 10 [.mk 8 0 (-1) (-1) (-1) 0 0 [], .mk 11 0 (-1) (-1) (-1) 0 3 []], .mk 3 0 (-1) (-1) (-1) 0 0 [], .mk 1 2 (-1) (-1) (-1) 0 0 []]))) ?_ (by intro v l h; simp [Zk, Zf] at h; exact hadW_of (by decide) (by omega) (by omega)) (fun v l t _ => by simp [encW, listE] <;> rfl)
  refine emit_leaf (σ := aWriteTxnMarkersRequest) (i := 1) (o := 1) (ty := .list (.struct (.cons 0 (.int .i64) (.cons 1 (.int .i16) (.cons 2 .bool (.cons 3 (.list (.struct (.cons 0 .str (.cons 1 (.list (.int .i32) 1) .nil)) (some 2) 3) 3) (.cons 4 (.int .i32) (.cons 5 (.int .i8) .nil)))))) (some 6) 7) 7) ?_ (by rfl) (by kernel_rfl) (by kernel_rfl) rfl rfl
  refine emit_list ?_ ?_ (by rfl)
  ·refine emit_cond (rs := [_]) (tstw_flex (by rfl)) ?_ ?_ preC_stable (by rfl)
   ·refine emit_cnt ct_calen (by kernel_rfl) (by kernel_rfl) rfl (by rfl) (fun v l h => h.2)
   ·refine emit_cnt ct_alen (by kernel_rfl) (by kernel_rfl) rfl (by rfl) (fun v l h => h.2)
  ·refine emit_loop ?_ (by kernel_rfl) rfl (by rfl)
   refine emit_els (σe := aWriteTxnMarkersRequest_1) ?_ (by kernel_rfl) rfl (by rfl) (by rfl)
   refine emit_fields (σ := aWriteTxnMarkersRequest_1) (i := 0) rfl ?_ ?_ (by rfl)
   ·refine emit_had (σ := aWriteTxnMarkersRequest_1) (i := 0) (E := fun _ fl x => leafE 4 (-1) fl x) ?_ (by intro v l h; simp [Zk, Zf] at h; exact hadW_of (by decide) (by omega) (by omega)) (fun v l t _ => by simp [encW])
    refine emit_leaf (σ := aWriteTxnMarkersRequest_1) (i := 0) (o := 0) (ty := .int .i64) ?_ (by rfl) (by kernel_rfl) (by kernel_rfl) rfl rfl
    refine emit_call (av_i64 (null := (-1)) (fl := true)) (by kernel_rfl) (by rfl) (fun v l t h => by first | rfl | (obtain ⟨_, h⟩ := h; have h : l = true := h; subst h; rfl) | (obtain ⟨_, h⟩ := h; have h : l = false := h; subst h; rfl))
   ·refine emit_fields (σ := aWriteTxnMarkersRequest_1) (i := 1) rfl ?_ ?_ (by rfl)
    ·refine emit_had (σ := aWriteTxnMarkersRequest_1) (i := 1) (E := fun _ fl x => leafE 2 (-1) fl x) ?_ (by intro v l h; simp [Zk, Zf] at h; exact hadW_of (by decide) (by omega) (by omega)) (fun v l t _ => by simp [encW])
     refine emit_leaf (σ := aWriteTxnMarkersRequest_1) (i := 1) (o := 1) (ty := .int .i16) ?_ (by rfl) (by kernel_rfl) (by kernel_rfl) rfl rfl
     refine emit_call (av_i16 (null := (-1)) (fl := true)) (by kernel_rfl) (by rfl) (fun v l t h => by first | rfl | (obtain ⟨_, h⟩ := h; have h : l = true := h; subst h; rfl) | (obtain ⟨_, h⟩ := h; have h : l = false := h; subst h; rfl))
    ·refine emit_fields (σ := aWriteTxnMarkersRequest_1) (i := 2) rfl ?_ ?_ (by rfl)
     ·refine emit_had (σ := aWriteTxnMarkersRequest_1) (i := 2) (E := fun _ fl x => leafE 0 (-1) fl x) ?_ (by intro v l h; simp [Zk, Zf] at h; exact hadW_of (by decide) (by omega) (by omega)) (fun v l t _ => by simp [encW])
      refine emit_leaf (σ := aWriteTxnMarkersRequest_1) (i := 2) (o := 2) (ty := .bool) ?_ (by rfl) (by kernel_rfl) (by kernel_rfl) rfl rfl
      refine emit_call (av_bool (null := (-1)) (fl := true)) (by kernel_rfl) (by rfl) (fun v l t h => by first | rfl | (obtain ⟨_, h⟩ := h; have h : l = true := h; subst h; rfl) | (obtain ⟨_, h⟩ := h; have h : l = false := h; subst h; rfl))
     ·refine emit_fields (σ := aWriteTxnMarkersRequest_1) (i := 3) rfl ?_ ?_ (by rfl)
      ·refine emit_had (σ := aWriteTxnMarkersRequest_1) (i := 3) (E := listE false (structW ([.mk 8 0 (-1) (-1) (-1) 0 0 [], .mk 11 0 (-1) (-1) (-1) 0 3 []]))) ?_ (by intro v l h; simp [Zk, Zf] at h; exact hadW_of (by decide) (by omega) (by omega)) (fun v l t _ => by simp [encW, listE] <;> rfl)
       refine emit_leaf (σ := aWriteTxnMarkersRequest_1) (i := 3) (o := 3) (ty := .list (.struct (.cons 0 .str (.cons 1 (.list (.int .i32) 1) .nil)) (some 2) 3) 3) ?_ (by rfl) (by kernel_rfl) (by kernel_rfl) rfl rfl
       refine emit_list ?_ ?_ (by rfl)
       ·refine emit_cond (rs := [_]) (tstw_flex (by rfl)) ?_ ?_ preC_stable (by rfl)
        ·refine emit_cnt ct_calen (by kernel_rfl) (by kernel_rfl) rfl (by rfl) (fun v l h => h.2)
        ·refine emit_cnt ct_alen (by kernel_rfl) (by kernel_rfl) rfl (by rfl) (fun v l h => h.2)
       ·refine emit_loop ?_ (by kernel_rfl) rfl (by rfl)
        refine emit_els (σe := aWriteTxnMarkersRequest_2) ?_ (by kernel_rfl) rfl (by rfl) (by rfl)
        refine emit_fields (σ := aWriteTxnMarkersRequest_2) (i := 0) rfl ?_ ?_ (by rfl)
        ·refine emit_had (σ := aWriteTxnMarkersRequest_2) (i := 0) (E := fun _ fl x => leafE 8 (-1) fl x) ?_ (by intro v l h; simp [Zk, Zf] at h; exact hadW_of (by decide) (by omega) (by omega)) (fun v l t _ => by simp [encW])
         refine emit_leaf (σ := aWriteTxnMarkersRequest_2) (i := 0) (o := 0) (ty := .str) ?_ (by rfl) (by kernel_rfl) (by kernel_rfl) rfl rfl
         refine emit_cond (rs := [_]) (tstw_flex (by rfl)) ?_ ?_ preV_stable (by rfl)
         ·refine emit_call (av_cstr (null := (-1)) (by decide)) (by kernel_rfl) (by rfl) (fun v l t h => by first | rfl | (obtain ⟨_, h⟩ := h; have h : l = true := h; subst h; rfl) | (obtain ⟨_, h⟩ := h; have h : l = false := h; subst h; rfl))
         ·refine emit_call (av_str (null := (-1)) (by decide)) (by kernel_rfl) (by rfl) (fun v l t h => by first | rfl | (obtain ⟨_, h⟩ := h; have h : l = true := h; subst h; rfl) | (obtain ⟨_, h⟩ := h; have h : l = false := h; subst h; rfl))
        ·refine emit_fields (σ := aWriteTxnMarkersRequest_2) (i := 1) rfl ?_ ?_ (by rfl)
         ·refine emit_had (σ := aWriteTxnMarkersRequest_2) (i := 1) (E := listE false (fun _ fl y => leafE 3 (-1) fl y)) ?_ (by intro v l h; simp [Zk, Zf] at h; exact hadW_of (by decide) (by omega) (by omega)) (fun v l t _ => by simp [encW, listE] <;> rfl)
          refine emit_leaf (σ := aWriteTxnMarkersRequest_2) (i := 1) (o := 1) (ty := .list (.int .i32) 1) ?_ (by rfl) (by kernel_rfl) (by kernel_rfl) rfl rfl
          refine emit_list ?_ ?_ (by rfl)
          ·refine emit_cond (rs := [_]) (tstw_flex (by rfl)) ?_ ?_ preC_stable (by rfl)
           ·refine emit_cnt ct_calen (by kernel_rfl) (by kernel_rfl) rfl (by rfl) (fun v l h => h.2)
           ·refine emit_cnt ct_alen (by kernel_rfl) (by kernel_rfl) rfl (by rfl) (fun v l h => h.2)
          ·refine emit_loop ?_ (by kernel_rfl) rfl (by rfl)
           refine emit_el (e := .int .i32) ?_ rfl (by kernel_rfl) (by kernel_rfl) (by rfl)
           refine emit_call (av_i32 (null := (-1)) (fl := true)) (by kernel_rfl) (by rfl) (fun v l t h => by first | rfl | (obtain ⟨_, h⟩ := h; have h : l = true := h; subst h; rfl) | (obtain ⟨_, h⟩ := h; have h : l = false := h; subst h; rfl))
         ·refine emit_tags ?_ ?_ (by rfl) (by rfl) (by rfl)
          ·refine emit_tagn (σ := aWriteTxnMarkersRequest_2) (o := 2) ?_ ?_ ?_ ?_ ?_ ?_ ?_ <;> first | rfl | decide | kernel_rfl
          ·refine emit_tage (σ := aWriteTxnMarkersRequest_2) (o := 2) ?_ ?_ ?_ ?_ ?_ <;> first | rfl | decide | kernel_rfl
      ·refine emit_fields (σ := aWriteTxnMarkersRequest_1) (i := 4) rfl ?_ ?_ (by rfl)
       ·refine emit_had (σ := aWriteTxnMarkersRequest_1) (i := 4) (E := fun _ fl x => leafE 3 (-1) fl x) ?_ (by intro v l h; simp [Zk, Zf] at h; exact hadW_of (by decide) (by omega) (by omega)) (fun v l t _ => by simp [encW])
        refine emit_leaf (σ := aWriteTxnMarkersRequest_1) (i := 4) (o := 4) (ty := .int .i32) ?_ (by rfl) (by kernel_rfl) (by kernel_rfl) rfl rfl
        refine emit_call (av_i32 (null := (-1)) (fl := true)) (by kernel_rfl) (by rfl) (fun v l t h => by first | rfl | (obtain ⟨_, h⟩ := h; have h : l = true := h; subst h; rfl) | (obtain ⟨_, h⟩ := h; have h : l = false := h; subst h; rfl))
       ·refine emit_fields (σ := aWriteTxnMarkersRequest_1) (i := 5) rfl ?_ ?_ (by rfl)
        ·refine emit_cond (rs := [9]) (tstw_geq (by rfl)) ?_ ?_ (preH_stable (σ := aWriteTxnMarkersRequest_1) (i := 5)) (by rfl)
         ·refine emit_had (σ := aWriteTxnMarkersRequest_1) (i := 5) (E := fun _ fl x => leafE 1 (-1) fl x) ?_ (by intro v l h; simp [Zk, Zf] at h; exact hadW_of (by decide) (by omega) (by omega)) (fun v l t _ => by simp [encW])
          refine emit_leaf (σ := aWriteTxnMarkersRequest_1) (i := 5) (o := 5) (ty := .int .i8) ?_ (by rfl) (by kernel_rfl) (by kernel_rfl) rfl rfl
          refine emit_call (av_i8 (null := (-1)) (fl := true)) (by kernel_rfl) (by rfl) (fun v l t h => by first | rfl | (obtain ⟨_, h⟩ := h; have h : l = true := h; subst h; rfl) | (obtain ⟨_, h⟩ := h; have h : l = false := h; subst h; rfl))
         ·exact emit_lacks (by intro v l h; simp [Zk, Zf] at h; exact hadW_not (by omega))
        ·refine emit_tags ?_ ?_ (by rfl) (by rfl) (by rfl)
         ·refine emit_tagn (σ := aWriteTxnMarkersRequest_1) (o := 6) ?_ ?_ ?_ ?_ ?_ ?_ ?_ <;> first | rfl | decide | kernel_rfl
         ·refine emit_tage (σ := aWriteTxnMarkersRequest_1) (o := 6) ?_ ?_ ?_ ?_ ?_ <;> first | rfl | decide | kernel_rfl
 ·refine emitw_tags ?_ (emitw_end (by rfl))
  refine emit_tags ?_ ?_ (by rfl) (by rfl) (by rfl)
  ·refine emit_tagn (σ := aWriteTxnMarkersRequest) (o := 2) ?_ ?_ ?_ ?_ ?_ ?_ ?_ <;> first | rfl | decide | kernel_rfl
  ·refine emit_tage (σ := aWriteTxnMarkersRequest) (o := 2) ?_ ?_ ?_ ?_ ?_ <;> first | rfl | decide | kernel_rfl
end Go.Proofs.Ytmehfgiadapekaa
set_option linter.unusedSimpArgs false
set_option linter.unusedVariables false
namespace Go.Proofs.Ytmehfgiadapekaa
open Go Go.RowKit
abbrev gWriteTxnMarkersRequestMarkerTopic : St := ⟨0, .cons 0 .str (.cons 1 (.list (.int .i32) 1) .nil), none, 3⟩
abbrev ft_WriteTxnMarkersRequestMarkerTopic : List FD := [.mk 8 0 (-1) (-1) (-1) 0 0 [], .mk 11 0 (-1) (-1) (-1) 0 3 []]
set_option maxRecDepth 100000 in
theorem mk_WriteTxnMarkersRequestMarkerTopic : ValC Try.prog 198 (.struct gWriteTxnMarkersRequestMarkerTopic.lay (some 2) 3) (fun y => .part (fillsW ft_WriteTxnMarkersRequestMarkerTopic 0 y) y.U) (fun y => goksW ft_WriteTxnMarkersRequestMarkerTopic 0 y /\ UOk y.U) := by
 refine make_top (z := .agg #[.string (str []), .slice none 0 0, .map none]) (T := 220) Try.func198 rfl rfl rfl (by decide) rfl (by decide) (by kernel_rfl) rfl (fun w F => ?_) rfl (by kernel_rfl) ?_
 ·exact Lay.zero_rep gWriteTxnMarkersRequestMarkerTopic.lay _ (by repeat' (first | rfl | trivial | apply And.intro))
 ·refine rest_cons ?_ ?_
  ·exact fst_mono (fst_make (mids := [_, _]) (i := 0) (j := 0) (o := 0) (k := 0) (T := 220) (ty := .str) iat_C (by kernel_rfl) (by kernel_rfl) (val_text (eb := 5) (by kernel_rfl) (by kernel_rfl) (by kernel_rfl)) rfl (by kernel_rfl) (by kernel_rfl) (by kernel_rfl) (by kernel_rfl) (by kernel_rfl)) rfl (fun _ _ => fk_str (by decide)) (fun _ h => fo_text h)
  refine rest_cons ?_ ?_
  ·exact fst_mono (fst_list (i := 1) (j := 1) (o := 1) (e := 21) (sz := 1) (ety := .int .i32) iat_C (by kernel_rfl) (by kernel_rfl) (by kernel_rfl) (by kernel_rfl) (by kernel_rfl) rfl (by kernel_rfl) rfl (mk_make (T := 220) (k := 1) iat_C (by kernel_rfl) (by kernel_rfl) (by kernel_rfl) (by kernel_rfl) rfl (by kernel_rfl) (by kernel_rfl) (by kernel_rfl) rfl (by kernel_rfl) (by kernel_rfl) (by kernel_rfl)) (app_make_num (kd := .i32) (T := 220) (k := 1) (by kernel_rfl) (by kernel_rfl) (by kernel_rfl) (by kernel_rfl) (by kernel_rfl) (by kernel_rfl) (by kernel_rfl) (by kernel_rfl) (by kernel_rfl) (by kernel_rfl)) (by kernel_rfl) rfl rfl (by kernel_rfl) (by kernel_rfl)) (by simp [zeroW]) (fun _ _ => fk_leafs (by decide) fl_i32) (fun _ h => fo_nums h)
  refine rest_ret (T := 220) rfl ?_ rfl (by kernel_rfl) (by kernel_rfl) (by kernel_rfl) (by kernel_rfl) rfl (by kernel_rfl)
  exact tags_set rfl (by kernel_rfl) (by kernel_rfl) (by kernel_rfl) rfl (by kernel_rfl) (by kernel_rfl) (by kernel_rfl) (tag_make (T := 220) (kt := 2) (TG := 64) setTag_spec (by kernel_rfl) (by kernel_rfl) (by kernel_rfl) (by kernel_rfl) (by kernel_rfl) (by kernel_rfl) (by kernel_rfl) (by kernel_rfl)) (by kernel_rfl)
abbrev gWriteTxnMarkersRequestMarker : St := ⟨0, .cons 0 (.int .i64) (.cons 1 (.int .i16) (.cons 2 .bool (.cons 3 (.list (.struct (.cons 0 .str (.cons 1 (.list (.int .i32) 1) .nil)) (some 2) 3) 3) (.cons 4 (.int .i32) (.cons 5 (.int .i8) .nil))))), none, 7⟩
abbrev ft_WriteTxnMarkersRequestMarker : List FD := [.mk 4 0 (-1) (-1) (-1) 0 0 [], .mk 2 0 (-1) (-1) (-1) 0 0 [], .mk 0 0 (-1) (-1) (-1) 0 0 [], .mk 11 0 (-1) (-1) (-1) 0 10 [.mk 8 0 (-1) (-1) (-1) 0 0 [], .mk 11 0 (-1) (-1) (-1) 0 3 []], .mk 3 0 (-1) (-1) (-1) 0 0 [], .mk 1 2 (-1) (-1) (-1) 0 0 []]
set_option maxRecDepth 100000 in
theorem mk_WriteTxnMarkersRequestMarker : ValC Try.prog 178 (.struct gWriteTxnMarkersRequestMarker.lay (some 6) 7) (fun y => .part (fillsW ft_WriteTxnMarkersRequestMarker 0 y) y.U) (fun y => goksW ft_WriteTxnMarkersRequestMarker 0 y /\ UOk y.U) := by
 refine make_top (z := .agg #[.int .i64 0, .int .i16 0, .bool false, .slice none 0 0, .int .i32 0, .int .i8 0, .map none]) (T := 214) Try.func178 rfl rfl rfl (by decide) rfl (by decide) (by kernel_rfl) rfl (fun w F => ?_) rfl (by kernel_rfl) ?_
 ·exact Lay.zero_rep gWriteTxnMarkersRequestMarker.lay _ (by repeat' (first | rfl | trivial | apply And.intro))
 ·refine rest_cons ?_ ?_
  ·exact fst_mono (fst_make (mids := [_]) (i := 0) (j := 0) (o := 0) (k := 0) (T := 214) (ty := .int .i64) iat_C (by kernel_rfl) (by kernel_rfl) (val_i64 (by kernel_rfl) (by kernel_rfl)) rfl (by kernel_rfl) (by kernel_rfl) (by kernel_rfl) (by kernel_rfl) (by kernel_rfl)) rfl (fun _ _ => fk_i64) (fun _ h => trivial)
  refine rest_cons ?_ ?_
  ·exact fst_mono (fst_make (mids := [_, _]) (i := 1) (j := 1) (o := 1) (k := 1) (T := 214) (ty := .int .i16) iat_C (by kernel_rfl) (by kernel_rfl) (val_num (kd := .i16) (by kernel_rfl) (by kernel_rfl) (by kernel_rfl) (by kernel_rfl)) rfl (by kernel_rfl) (by kernel_rfl) (by kernel_rfl) (by kernel_rfl) (by kernel_rfl)) rfl (fun _ _ => fk_i16) (fun _ h => trivial)
  refine rest_cons ?_ ?_
  ·exact fst_mono (fst_make (mids := [_, _, _]) (i := 2) (j := 2) (o := 2) (k := 2) (T := 214) (ty := .bool) iat_C (by kernel_rfl) (by kernel_rfl) (val_bool (by kernel_rfl) (by kernel_rfl)) rfl (by kernel_rfl) (by kernel_rfl) (by kernel_rfl) (by kernel_rfl) (by kernel_rfl)) rfl (fun _ _ => fk_bool) (fun _ h => trivial)
  refine rest_cons ?_ ?_
  ·exact fst_mono (fst_list (i := 3) (j := 3) (o := 3) (e := 220) (sz := 3) (ety := .struct (.cons 0 .str (.cons 1 (.list (.int .i32) 1) .nil)) (some 2) 3) iat_C (by kernel_rfl) (by kernel_rfl) (by kernel_rfl) (by kernel_rfl) (by kernel_rfl) rfl (by kernel_rfl) rfl (mk_make (T := 214) (k := 3) iat_C (by kernel_rfl) (by kernel_rfl) (by kernel_rfl) (by kernel_rfl) rfl (by kernel_rfl) (by kernel_rfl) (by kernel_rfl) rfl (by kernel_rfl) (by kernel_rfl) (by kernel_rfl)) (app_make (T := 214) (k := 3) (by kernel_rfl) (by kernel_rfl) mk_WriteTxnMarkersRequestMarkerTopic (by kernel_rfl) (by kernel_rfl) (by kernel_rfl) (by kernel_rfl) (by kernel_rfl) (by kernel_rfl) (by kernel_rfl) rfl (by kernel_rfl)) (by kernel_rfl) rfl rfl (by kernel_rfl) (by kernel_rfl)) (by simp [zeroW]) (fun _ _ => fk_list) (fun _ h => fo_list h)
  refine rest_cons ?_ ?_
  ·exact fst_mono (fst_make (mids := [_, _]) (i := 4) (j := 4) (o := 4) (k := 4) (T := 214) (ty := .int .i32) iat_C (by kernel_rfl) (by kernel_rfl) (val_num (kd := .i32) (by kernel_rfl) (by kernel_rfl) (by kernel_rfl) (by kernel_rfl)) rfl (by kernel_rfl) (by kernel_rfl) (by kernel_rfl) (by kernel_rfl) (by kernel_rfl)) rfl (fun _ _ => fk_i32) (fun _ h => trivial)
  refine rest_cons ?_ ?_
  ·exact fst_mono (fst_make (mids := [_, _]) (i := 5) (j := 5) (o := 5) (k := 5) (T := 214) (ty := .int .i8) iat_C (by kernel_rfl) (by kernel_rfl) (val_num (kd := .i8) (by kernel_rfl) (by kernel_rfl) (by kernel_rfl) (by kernel_rfl)) rfl (by kernel_rfl) (by kernel_rfl) (by kernel_rfl) (by kernel_rfl) (by kernel_rfl)) rfl (fun _ _ => fk_i8) (fun _ h => trivial)
  refine rest_ret (T := 214) rfl ?_ rfl (by kernel_rfl) (by kernel_rfl) (by kernel_rfl) (by kernel_rfl) rfl (by kernel_rfl)
  exact tags_set rfl (by kernel_rfl) (by kernel_rfl) (by kernel_rfl) rfl (by kernel_rfl) (by kernel_rfl) (by kernel_rfl) (tag_make (T := 214) (kt := 6) (TG := 64) setTag_spec (by kernel_rfl) (by kernel_rfl) (by kernel_rfl) (by kernel_rfl) (by kernel_rfl) (by kernel_rfl) (by kernel_rfl) (by kernel_rfl)) (by kernel_rfl)
abbrev gWriteTxnMarkersRequest : St := ⟨0, .cons 0 (.int .i16) (.cons 1 (.list (.struct (.cons 0 (.int .i64) (.cons 1 (.int .i16) (.cons 2 .bool (.cons 3 (.list (.struct (.cons 0 .str (.cons 1 (.list (.int .i32) 1) .nil)) (some 2) 3) 3) (.cons 4 (.int .i32) (.cons 5 (.int .i8) .nil)))))) (some 6) 7) 7) .nil), none, 3⟩
set_option maxRecDepth 100000 in
theorem fill_WriteTxnMarkersRequest : FillC Try.prog 107 gWriteTxnMarkersRequest 2 Zg := by
 refine fill_top Try.func107 rfl rfl rfl (by decide) rfl (by decide) ?_
 refine rest_cons ?_ ?_
 ·exact fst_mono (fst_list (i := 1) (j := 0) (o := 1) (e := 214) (sz := 7) (ety := .struct (.cons 0 (.int .i64) (.cons 1 (.int .i16) (.cons 2 .bool (.cons 3 (.list (.struct (.cons 0 .str (.cons 1 (.list (.int .i32) 1) .nil)) (some 2) 3) 3) (.cons 4 (.int .i32) (.cons 5 (.int .i8) .nil)))))) (some 6) 7) iat_C (by kernel_rfl) (by kernel_rfl) (by kernel_rfl) (by kernel_rfl) (by kernel_rfl) rfl (by kernel_rfl) rfl (mk_fill (T := 114) (k := 1) iat_C (by kernel_rfl) (by kernel_rfl) (by kernel_rfl) (by kernel_rfl) rfl (by kernel_rfl) (by kernel_rfl) (by kernel_rfl) rfl (by kernel_rfl) (by kernel_rfl) (by kernel_rfl)) (app_fill (T := 114) (k := 1) (by kernel_rfl) (by kernel_rfl) mk_WriteTxnMarkersRequestMarker (by kernel_rfl) (by kernel_rfl) (by kernel_rfl) (by kernel_rfl) (by kernel_rfl) (by kernel_rfl) (by kernel_rfl) rfl (by kernel_rfl)) (by kernel_rfl) rfl rfl (by kernel_rfl) (by kernel_rfl)) (by simp [zeroW]) (fun _ _ => fk_list) (fun _ h => fo_list h)
 refine rest_tags rfl ?_
 exact tags_set rfl (by kernel_rfl) (by kernel_rfl) (by kernel_rfl) rfl (by kernel_rfl) (by kernel_rfl) (by kernel_rfl) (tag_fill (T := 114) (kt := 2) (TG := 64) (by kernel_rfl) setTag_spec (by kernel_rfl) (by kernel_rfl) (by kernel_rfl) (by kernel_rfl) (by kernel_rfl) (by kernel_rfl) (by kernel_rfl) (by kernel_rfl)) (by kernel_rfl)
theorem set_WriteTxnMarkersRequest : SetC Try.prog 106 { gWriteTxnMarkersRequest with tg := some 2 } :=
 set_rule Try.func106 rfl rfl rfl (by kernel_rfl) (by kernel_rfl) rfl rfl rfl (by decide)
theorem make_WriteTxnMarkersRequest : MakeC Try.prog 43 Zf Zk Zg := by
 refine make_rule (σ := gWriteTxnMarkersRequest) (σa := aWriteTxnMarkersRequest) (ot := 2) (zc := #[.int .i16 0, .slice none 0 0, .map none]) Try.func43 rfl rfl rfl (by kernel_rfl) (by kernel_rfl) (by kernel_rfl) (by kernel_rfl) (by kernel_rfl) (by kernel_rfl) (by kernel_rfl) (by decide) (fun w F => ?_) rfl set_WriteTxnMarkersRequest fill_WriteTxnMarkersRequest app_WriteTxnMarkersRequest rfl rfl rfl
 exact Lay.zero_rep gWriteTxnMarkersRequest.lay _ (by repeat' (first | rfl | trivial | apply And.intro))
end Go.Proofs.Ytmehfgiadapekaa
