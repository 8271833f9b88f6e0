/-
  AlterUserSCRAMCredentialsRequest: AppendTo.
  AlterUserSCRAMCredentialsRequest: its fields are set.
-/
import Derived.Test.YtmehfgiadapekaaPZd
import Derived.Test.YtmehfgiadapekaaPZx
set_option linter.unusedSimpArgs false
set_option linter.unusedVariables false
namespace Go.Proofs.Ytmehfgiadapekaa
open Go Go.RowKit
abbrev Zg : List FD := [.mk 11 0 (-1) (-1) (-1) 0 10 [.mk 8 0 (-1) (-1) (-1) 0 0 [], .mk 1 0 (-1) (-1) (-1) 0 0 []], .mk 11 0 (-1) (-1) (-1) 0 10 [.mk 8 0 (-1) (-1) (-1) 0 0 [], .mk 1 0 (-1) (-1) (-1) 0 0 [], .mk 3 0 (-1) (-1) (-1) 0 0 [], .mk 9 0 (-1) (-1) (-1) 0 0 [], .mk 9 0 (-1) (-1) (-1) 0 0 []]]
abbrev Zf : Int -> Bool := fun ver => decide ((0 : Int) <= ver)
abbrev Zk : OkV := fun ver fl => 0 <= ver /\ ver <= 0 /\ fl = Zf ver
abbrev aAlterUserSCRAMCredentialsRequest : St := ⟨0, .cons 0 (.int .i16) (.cons 1 (.list (.struct (.cons 0 .str (.cons 1 (.int .i8) .nil)) (some 2) 3) 3) (.cons 2 (.list (.struct (.cons 0 .str (.cons 1 (.int .i8) (.cons 2 (.int .i32) (.cons 3 .bytes (.cons 4 .bytes .nil))))) (some 5) 6) 6) .nil)), some 3, 4⟩
abbrev aAlterUserSCRAMCredentialsRequest_1 : St := ⟨9, .cons 0 .str (.cons 1 (.int .i8) .nil), some 2, 3⟩
abbrev aAlterUserSCRAMCredentialsRequest_2 : St := ⟨14, .cons 0 .str (.cons 1 (.int .i8) (.cons 2 (.int .i32) (.cons 3 .bytes (.cons 4 .bytes .nil)))), some 5, 6⟩
set_option maxRecDepth 100000 in
theorem app_AlterUserSCRAMCredentialsRequest : AppToC Try.prog 102 aAlterUserSCRAMCredentialsRequest (fun ver => decide ((0 : Int) <= ver)) Zk Zg := by
 refine app_top (m := 20) (N := 180) Try.func102 rfl rfl (by kernel_rfl) (by kernel_rfl) rfl rfl (by decide) (by decide) rfl ?_
 refine emitw_fields (σ := aAlterUserSCRAMCredentialsRequest) (i := 1) rfl ?_ ?_ (by rfl)
 ·refine emit_had (σ := aAlterUserSCRAMCredentialsRequest) (i := 1) (E := listE false (structW ([.mk 8 0 (-1) (-1) (-1) 0 0 [], .mk 1 0 (-1) (-1) (-1) 0 0 []]))) ?_ (by intro v l h; simp [Zk, Zf] at h; exact hadW_of (by decide) (by omega) (by omega)) (fun v l t _ => by simp [encW, listE] <;> rfl)
  refine emit_leaf (σ := aAlterUserSCRAMCredentialsRequest) (i := 1) (o := 1) (ty := .list (.struct (.cons 0 .str (.cons 1 (.int .i8) .nil)) (some 2) 3) 3) ?_ (by rfl) (by kernel_rfl) (by kernel_rfl) rfl rfl
  refine emit_list ?_ ?_ (by rfl)
  ·refine emit_cond (rs := [_]) (tstw_flex (by rfl)) ?_ ?_ preC_stable (by rfl)
   ·refine emit_cnt ct_calen (by kernel_rfl) (by kernel_rfl) rfl (by rfl) (fun v l h => h.2)
   ·refine emit_cnt ct_alen (by kernel_rfl) (by kernel_rfl) rfl (by rfl) (fun v l h => h.2)
  ·refine emit_loop ?_ (by kernel_rfl) rfl (by rfl)
   refine emit_els (σe := aAlterUserSCRAMCredentialsRequest_1) ?_ (by kernel_rfl) rfl (by rfl) (by rfl)
   refine emit_fields (σ := aAlterUserSCRAMCredentialsRequest_1) (i := 0) rfl ?_ ?_ (by rfl)
   ·refine emit_had (σ := aAlterUserSCRAMCredentialsRequest_1) (i := 0) (E := fun _ fl x => leafE 8 (-1) fl x) ?_ (by intro v l h; simp [Zk, Zf] at h; exact hadW_of (by decide) (by omega) (by omega)) (fun v l t _ => by simp [encW])
    refine emit_leaf (σ := aAlterUserSCRAMCredentialsRequest_1) (i := 0) (o := 0) (ty := .str) ?_ (by rfl) (by kernel_rfl) (by kernel_rfl) rfl rfl
    refine emit_cond (rs := [_]) (tstw_flex (by rfl)) ?_ ?_ preV_stable (by rfl)
    ·refine emit_call (av_cstr (null := (-1)) (by decide)) (by kernel_rfl) (by rfl) (fun v l t h => by first | rfl | (obtain ⟨_, h⟩ := h; have h : l = true := h; subst h; rfl) | (obtain ⟨_, h⟩ := h; have h : l = false := h; subst h; rfl))
    ·refine emit_call (av_str (null := (-1)) (by decide)) (by kernel_rfl) (by rfl) (fun v l t h => by first | rfl | (obtain ⟨_, h⟩ := h; have h : l = true := h; subst h; rfl) | (obtain ⟨_, h⟩ := h; have h : l = false := h; subst h; rfl))
   ·refine emit_fields (σ := aAlterUserSCRAMCredentialsRequest_1) (i := 1) rfl ?_ ?_ (by rfl)
    ·refine emit_had (σ := aAlterUserSCRAMCredentialsRequest_1) (i := 1) (E := fun _ fl x => leafE 1 (-1) fl x) ?_ (by intro v l h; simp [Zk, Zf] at h; exact hadW_of (by decide) (by omega) (by omega)) (fun v l t _ => by simp [encW])
     refine emit_leaf (σ := aAlterUserSCRAMCredentialsRequest_1) (i := 1) (o := 1) (ty := .int .i8) ?_ (by rfl) (by kernel_rfl) (by kernel_rfl) rfl rfl
     refine emit_call (av_i8 (null := (-1)) (fl := true)) (by kernel_rfl) (by rfl) (fun v l t h => by first | rfl | (obtain ⟨_, h⟩ := h; have h : l = true := h; subst h; rfl) | (obtain ⟨_, h⟩ := h; have h : l = false := h; subst h; rfl))
    ·refine emit_tags ?_ ?_ (by rfl) (by rfl) (by rfl)
     ·refine emit_tagn (σ := aAlterUserSCRAMCredentialsRequest_1) (o := 2) ?_ ?_ ?_ ?_ ?_ ?_ ?_ <;> first | rfl | decide | kernel_rfl
     ·refine emit_tage (σ := aAlterUserSCRAMCredentialsRequest_1) (o := 2) ?_ ?_ ?_ ?_ ?_ <;> first | rfl | decide | kernel_rfl
 ·refine emitw_fields (σ := aAlterUserSCRAMCredentialsRequest) (i := 2) rfl ?_ ?_ (by rfl)
  ·refine emit_had (σ := aAlterUserSCRAMCredentialsRequest) (i := 2) (E := listE false (structW ([.mk 8 0 (-1) (-1) (-1) 0 0 [], .mk 1 0 (-1) (-1) (-1) 0 0 [], .mk 3 0 (-1) (-1) (-1) 0 0 [], .mk 9 0 (-1) (-1) (-1) 0 0 [], .mk 9 0 (-1) (-1) (-1) 0 0 []]))) ?_ (by intro v l h; simp [Zk, Zf] at h; exact hadW_of (by decide) (by omega) (by omega)) (fun v l t _ => by simp [encW, listE] <;> rfl)
   refine emit_leaf (σ := aAlterUserSCRAMCredentialsRequest) (i := 2) (o := 2) (ty := .list (.struct (.cons 0 .str (.cons 1 (.int .i8) (.cons 2 (.int .i32) (.cons 3 .bytes (.cons 4 .bytes .nil))))) (some 5) 6) 6) ?_ (by rfl) (by kernel_rfl) (by kernel_rfl) rfl rfl
   refine emit_list ?_ ?_ (by rfl)
   ·refine emit_cond (rs := [_]) (tstw_flex (by rfl)) ?_ ?_ preC_stable (by rfl)
    ·refine emit_cnt ct_calen (by kernel_rfl) (by kernel_rfl) rfl (by rfl) (fun v l h => h.2)
    ·refine emit_cnt ct_alen (by kernel_rfl) (by kernel_rfl) rfl (by rfl) (fun v l h => h.2)
   ·refine emit_loop ?_ (by kernel_rfl) rfl (by rfl)
    refine emit_els (σe := aAlterUserSCRAMCredentialsRequest_2) ?_ (by kernel_rfl) rfl (by rfl) (by rfl)
    refine emit_fields (σ := aAlterUserSCRAMCredentialsRequest_2) (i := 0) rfl ?_ ?_ (by rfl)
    ·refine emit_had (σ := aAlterUserSCRAMCredentialsRequest_2) (i := 0) (E := fun _ fl x => leafE 8 (-1) fl x) ?_ (by intro v l h; simp [Zk, Zf] at h; exact hadW_of (by decide) (by omega) (by omega)) (fun v l t _ => by simp [encW])
     refine emit_leaf (σ := aAlterUserSCRAMCredentialsRequest_2) (i := 0) (o := 0) (ty := .str) ?_ (by rfl) (by kernel_rfl) (by kernel_rfl) rfl rfl
     refine emit_cond (rs := [_]) (tstw_flex (by rfl)) ?_ ?_ preV_stable (by rfl)
     ·refine emit_call (av_cstr (null := (-1)) (by decide)) (by kernel_rfl) (by rfl) (fun v l t h => by first | rfl | (obtain ⟨_, h⟩ := h; have h : l = true := h; subst h; rfl) | (obtain ⟨_, h⟩ := h; have h : l = false := h; subst h; rfl))
     ·refine emit_call (av_str (null := (-1)) (by decide)) (by kernel_rfl) (by rfl) (fun v l t h => by first | rfl | (obtain ⟨_, h⟩ := h; have h : l = true := h; subst h; rfl) | (obtain ⟨_, h⟩ := h; have h : l = false := h; subst h; rfl))
    ·refine emit_fields (σ := aAlterUserSCRAMCredentialsRequest_2) (i := 1) rfl ?_ ?_ (by rfl)
     ·refine emit_had (σ := aAlterUserSCRAMCredentialsRequest_2) (i := 1) (E := fun _ fl x => leafE 1 (-1) fl x) ?_ (by intro v l h; simp [Zk, Zf] at h; exact hadW_of (by decide) (by omega) (by omega)) (fun v l t _ => by simp [encW])
      refine emit_leaf (σ := aAlterUserSCRAMCredentialsRequest_2) (i := 1) (o := 1) (ty := .int .i8) ?_ (by rfl) (by kernel_rfl) (by kernel_rfl) rfl rfl
      refine emit_call (av_i8 (null := (-1)) (fl := true)) (by kernel_rfl) (by rfl) (fun v l t h => by first | rfl | (obtain ⟨_, h⟩ := h; have h : l = true := h; subst h; rfl) | (obtain ⟨_, h⟩ := h; have h : l = false := h; subst h; rfl))
     ·refine emit_fields (σ := aAlterUserSCRAMCredentialsRequest_2) (i := 2) rfl ?_ ?_ (by rfl)
      ·refine emit_had (σ := aAlterUserSCRAMCredentialsRequest_2) (i := 2) (E := fun _ fl x => leafE 3 (-1) fl x) ?_ (by intro v l h; simp [Zk, Zf] at h; exact hadW_of (by decide) (by omega) (by omega)) (fun v l t _ => by simp [encW])
       refine emit_leaf (σ := aAlterUserSCRAMCredentialsRequest_2) (i := 2) (o := 2) (ty := .int .i32) ?_ (by rfl) (by kernel_rfl) (by kernel_rfl) rfl rfl
       refine emit_call (av_i32 (null := (-1)) (fl := true)) (by kernel_rfl) (by rfl) (fun v l t h => by first | rfl | (obtain ⟨_, h⟩ := h; have h : l = true := h; subst h; rfl) | (obtain ⟨_, h⟩ := h; have h : l = false := h; subst h; rfl))
      ·refine emit_fields (σ := aAlterUserSCRAMCredentialsRequest_2) (i := 3) rfl ?_ ?_ (by rfl)
       ·refine emit_had (σ := aAlterUserSCRAMCredentialsRequest_2) (i := 3) (E := fun _ fl x => leafE 9 (-1) fl x) ?_ (by intro v l h; simp [Zk, Zf] at h; exact hadW_of (by decide) (by omega) (by omega)) (fun v l t _ => by simp [encW])
        refine emit_leaf (σ := aAlterUserSCRAMCredentialsRequest_2) (i := 3) (o := 3) (ty := .bytes) ?_ (by rfl) (by kernel_rfl) (by kernel_rfl) rfl rfl
        refine emit_cond (rs := [_]) (tstw_flex (by rfl)) ?_ ?_ preV_stable (by rfl)
        ·refine emit_call (av_cbytes (null := (-1)) (by decide)) (by kernel_rfl) (by rfl) (fun v l t h => by first | rfl | (obtain ⟨_, h⟩ := h; have h : l = true := h; subst h; rfl) | (obtain ⟨_, h⟩ := h; have h : l = false := h; subst h; rfl))
        ·refine emit_call (av_bytes (null := (-1)) (by decide)) (by kernel_rfl) (by rfl) (fun v l t h => by first | rfl | (obtain ⟨_, h⟩ := h; have h : l = true := h; subst h; rfl) | (obtain ⟨_, h⟩ := h; have h : l = false := h; subst h; rfl))
       ·refine emit_fields (σ := aAlterUserSCRAMCredentialsRequest_2) (i := 4) rfl ?_ ?_ (by rfl)
        ·refine emit_had (σ := aAlterUserSCRAMCredentialsRequest_2) (i := 4) (E := fun _ fl x => leafE 9 (-1) fl x) ?_ (by intro v l h; simp [Zk, Zf] at h; exact hadW_of (by decide) (by omega) (by omega)) (fun v l t _ => by simp [encW])
         refine emit_leaf (σ := aAlterUserSCRAMCredentialsRequest_2) (i := 4) (o := 4) (ty := .bytes) ?_ (by rfl) (by kernel_rfl) (by kernel_rfl) rfl rfl
         refine emit_cond (rs := [_]) (tstw_flex (by rfl)) ?_ ?_ preV_stable (by rfl)
         ·refine emit_call (av_cbytes (null := (-1)) (by decide)) (by kernel_rfl) (by rfl) (fun v l t h => by first | rfl | (obtain ⟨_, h⟩ := h; have h : l = true := h; subst h; rfl) | (obtain ⟨_, h⟩ := h; have h : l = false := h; subst h; rfl))
         ·refine emit_call (av_bytes (null := (-1)) (by decide)) (by kernel_rfl) (by rfl) (fun v l t h => by first | rfl | (obtain ⟨_, h⟩ := h; have h : l = true := h; subst h; rfl) | (obtain ⟨_, h⟩ := h; have h : l = false := h; subst h; rfl))
        ·refine emit_tags ?_ ?_ (by rfl) (by rfl) (by rfl)
         ·refine emit_tagn (σ := aAlterUserSCRAMCredentialsRequest_2) (o := 5) ?_ ?_ ?_ ?_ ?_ ?_ ?_ <;> first | rfl | decide | kernel_rfl
         ·refine emit_tage (σ := aAlterUserSCRAMCredentialsRequest_2) (o := 5) ?_ ?_ ?_ ?_ ?_ <;> first | rfl | decide | kernel_rfl
  ·refine emitw_tags ?_ (emitw_end (by rfl))
   refine emit_tags ?_ ?_ (by rfl) (by rfl) (by rfl)
   ·refine emit_tagn (σ := aAlterUserSCRAMCredentialsRequest) (o := 3) ?_ ?_ ?_ ?_ ?_ ?_ ?_ <;> first | rfl | decide | kernel_rfl
   ·refine emit_tage (σ := aAlterUserSCRAMCredentialsRequest) (o := 3) ?_ ?_ ?_ ?_ ?_ <;> first | rfl | decide | kernel_rfl
end Go.Proofs.Ytmehfgiadapekaa
set_option linter.unusedSimpArgs false
set_option linter.unusedVariables false
namespace Go.Proofs.Ytmehfgiadapekaa
open Go Go.RowKit
abbrev gAlterUserSCRAMCredentialsRequestDeletion : St := ⟨0, .cons 0 .str (.cons 1 (.int .i8) .nil), none, 3⟩
abbrev ft_AlterUserSCRAMCredentialsRequestDeletion : List FD := [.mk 8 0 (-1) (-1) (-1) 0 0 [], .mk 1 0 (-1) (-1) (-1) 0 0 []]
set_option maxRecDepth 100000 in
theorem mk_AlterUserSCRAMCredentialsRequestDeletion : ValC Try.prog 172 (.struct gAlterUserSCRAMCredentialsRequestDeletion.lay (some 2) 3) (fun y => .part (fillsW ft_AlterUserSCRAMCredentialsRequestDeletion 0 y) y.U) (fun y => goksW ft_AlterUserSCRAMCredentialsRequestDeletion 0 y /\ UOk y.U) := by
 refine make_top (z := .agg #[.string (str []), .int .i8 0, .map none]) (T := 204) Try.func172 rfl rfl rfl (by decide) rfl (by decide) (by kernel_rfl) rfl (fun w F => ?_) rfl (by kernel_rfl) ?_
 ·exact Lay.zero_rep gAlterUserSCRAMCredentialsRequestDeletion.lay _ (by repeat' (first | rfl | trivial | apply And.intro))
 ·refine rest_cons ?_ ?_
  ·exact fst_mono (fst_make (mids := [_, _]) (i := 0) (j := 0) (o := 0) (k := 0) (T := 204) (ty := .str) iat_C (by kernel_rfl) (by kernel_rfl) (val_text (eb := 5) (by kernel_rfl) (by kernel_rfl) (by kernel_rfl)) rfl (by kernel_rfl) (by kernel_rfl) (by kernel_rfl) (by kernel_rfl) (by kernel_rfl)) rfl (fun _ _ => fk_str (by decide)) (fun _ h => fo_text h)
  refine rest_cons ?_ ?_
  ·exact fst_mono (fst_make (mids := [_, _]) (i := 1) (j := 1) (o := 1) (k := 1) (T := 204) (ty := .int .i8) iat_C (by kernel_rfl) (by kernel_rfl) (val_num (kd := .i8) (by kernel_rfl) (by kernel_rfl) (by kernel_rfl) (by kernel_rfl)) rfl (by kernel_rfl) (by kernel_rfl) (by kernel_rfl) (by kernel_rfl) (by kernel_rfl)) rfl (fun _ _ => fk_i8) (fun _ h => trivial)
  refine rest_ret (T := 204) rfl ?_ rfl (by kernel_rfl) (by kernel_rfl) (by kernel_rfl) (by kernel_rfl) rfl (by kernel_rfl)
  exact tags_set rfl (by kernel_rfl) (by kernel_rfl) (by kernel_rfl) rfl (by kernel_rfl) (by kernel_rfl) (by kernel_rfl) (tag_make (T := 204) (kt := 2) (TG := 64) setTag_spec (by kernel_rfl) (by kernel_rfl) (by kernel_rfl) (by kernel_rfl) (by kernel_rfl) (by kernel_rfl) (by kernel_rfl) (by kernel_rfl)) (by kernel_rfl)
abbrev gAlterUserSCRAMCredentialsRequestUpsertion : St := ⟨0, .cons 0 .str (.cons 1 (.int .i8) (.cons 2 (.int .i32) (.cons 3 .bytes (.cons 4 .bytes .nil)))), none, 6⟩
abbrev ft_AlterUserSCRAMCredentialsRequestUpsertion : List FD := [.mk 8 0 (-1) (-1) (-1) 0 0 [], .mk 1 0 (-1) (-1) (-1) 0 0 [], .mk 3 0 (-1) (-1) (-1) 0 0 [], .mk 9 0 (-1) (-1) (-1) 0 0 [], .mk 9 0 (-1) (-1) (-1) 0 0 []]
set_option maxRecDepth 100000 in
theorem mk_AlterUserSCRAMCredentialsRequestUpsertion : ValC Try.prog 173 (.struct gAlterUserSCRAMCredentialsRequestUpsertion.lay (some 5) 6) (fun y => .part (fillsW ft_AlterUserSCRAMCredentialsRequestUpsertion 0 y) y.U) (fun y => goksW ft_AlterUserSCRAMCredentialsRequestUpsertion 0 y /\ UOk y.U) := by
 refine make_top (z := .agg #[.string (str []), .int .i8 0, .int .i32 0, .slice none 0 0, .slice none 0 0, .map none]) (T := 207) Try.func173 rfl rfl rfl (by decide) rfl (by decide) (by kernel_rfl) rfl (fun w F => ?_) rfl (by kernel_rfl) ?_
 ·exact Lay.zero_rep gAlterUserSCRAMCredentialsRequestUpsertion.lay _ (by repeat' (first | rfl | trivial | apply And.intro))
 ·refine rest_cons ?_ ?_
  ·exact fst_mono (fst_make (mids := [_, _]) (i := 0) (j := 0) (o := 0) (k := 0) (T := 207) (ty := .str) iat_C (by kernel_rfl) (by kernel_rfl) (val_text (eb := 5) (by kernel_rfl) (by kernel_rfl) (by kernel_rfl)) rfl (by kernel_rfl) (by kernel_rfl) (by kernel_rfl) (by kernel_rfl) (by kernel_rfl)) rfl (fun _ _ => fk_str (by decide)) (fun _ h => fo_text h)
  refine rest_cons ?_ ?_
  ·exact fst_mono (fst_make (mids := [_, _]) (i := 1) (j := 1) (o := 1) (k := 1) (T := 207) (ty := .int .i8) iat_C (by kernel_rfl) (by kernel_rfl) (val_num (kd := .i8) (by kernel_rfl) (by kernel_rfl) (by kernel_rfl) (by kernel_rfl)) rfl (by kernel_rfl) (by kernel_rfl) (by kernel_rfl) (by kernel_rfl) (by kernel_rfl)) rfl (fun _ _ => fk_i8) (fun _ h => trivial)
  refine rest_cons ?_ ?_
  ·exact fst_mono (fst_make (mids := [_, _]) (i := 2) (j := 2) (o := 2) (k := 2) (T := 207) (ty := .int .i32) iat_C (by kernel_rfl) (by kernel_rfl) (val_num (kd := .i32) (by kernel_rfl) (by kernel_rfl) (by kernel_rfl) (by kernel_rfl)) rfl (by kernel_rfl) (by kernel_rfl) (by kernel_rfl) (by kernel_rfl) (by kernel_rfl)) rfl (fun _ _ => fk_i32) (fun _ h => trivial)
  refine rest_cons ?_ ?_
  ·exact fst_mono (fst_make (mids := [_]) (i := 3) (j := 3) (o := 3) (k := 3) (T := 207) (ty := .bytes) iat_C (by kernel_rfl) (by kernel_rfl) (val_call octetsOf_c (by kernel_rfl) (by kernel_rfl)) rfl (by kernel_rfl) (by kernel_rfl) (by kernel_rfl) (by kernel_rfl) (by kernel_rfl)) rfl (fun _ _ => fk_bytes) (fun _ h => fo_bytes h)
  refine rest_cons ?_ ?_
  ·exact fst_mono (fst_make (mids := [_]) (i := 4) (j := 4) (o := 4) (k := 4) (T := 207) (ty := .bytes) iat_C (by kernel_rfl) (by kernel_rfl) (val_call octetsOf_c (by kernel_rfl) (by kernel_rfl)) rfl (by kernel_rfl) (by kernel_rfl) (by kernel_rfl) (by kernel_rfl) (by kernel_rfl)) rfl (fun _ _ => fk_bytes) (fun _ h => fo_bytes h)
  refine rest_ret (T := 207) rfl ?_ rfl (by kernel_rfl) (by kernel_rfl) (by kernel_rfl) (by kernel_rfl) rfl (by kernel_rfl)
  exact tags_set rfl (by kernel_rfl) (by kernel_rfl) (by kernel_rfl) rfl (by kernel_rfl) (by kernel_rfl) (by kernel_rfl) (tag_make (T := 207) (kt := 5) (TG := 64) setTag_spec (by kernel_rfl) (by kernel_rfl) (by kernel_rfl) (by kernel_rfl) (by kernel_rfl) (by kernel_rfl) (by kernel_rfl) (by kernel_rfl)) (by kernel_rfl)
abbrev gAlterUserSCRAMCredentialsRequest : St := ⟨0, .cons 0 (.int .i16) (.cons 1 (.list (.struct (.cons 0 .str (.cons 1 (.int .i8) .nil)) (some 2) 3) 3) (.cons 2 (.list (.struct (.cons 0 .str (.cons 1 (.int .i8) (.cons 2 (.int .i32) (.cons 3 .bytes (.cons 4 .bytes .nil))))) (some 5) 6) 6) .nil)), none, 4⟩
set_option maxRecDepth 100000 in
theorem fill_AlterUserSCRAMCredentialsRequest : FillC Try.prog 101 gAlterUserSCRAMCredentialsRequest 3 Zg := by
 refine fill_top Try.func101 rfl rfl rfl (by decide) rfl (by decide) ?_
 refine rest_cons ?_ ?_
 ·exact fst_mono (fst_list (i := 1) (j := 0) (o := 1) (e := 204) (sz := 3) (ety := .struct (.cons 0 .str (.cons 1 (.int .i8) .nil)) (some 2) 3) iat_C (by kernel_rfl) (by kernel_rfl) (by kernel_rfl) (by kernel_rfl) (by kernel_rfl) rfl (by kernel_rfl) rfl (mk_fill (T := 108) (k := 1) iat_C (by kernel_rfl) (by kernel_rfl) (by kernel_rfl) (by kernel_rfl) rfl (by kernel_rfl) (by kernel_rfl) (by kernel_rfl) rfl (by kernel_rfl) (by kernel_rfl) (by kernel_rfl)) (app_fill (T := 108) (k := 1) (by kernel_rfl) (by kernel_rfl) mk_AlterUserSCRAMCredentialsRequestDeletion (by kernel_rfl) (by kernel_rfl) (by kernel_rfl) (by kernel_rfl) (by kernel_rfl) (by kernel_rfl) (by kernel_rfl) rfl (by kernel_rfl)) (by kernel_rfl) rfl rfl (by kernel_rfl) (by kernel_rfl)) (by simp [zeroW]) (fun _ _ => fk_list) (fun _ h => fo_list h)
 refine rest_cons ?_ ?_
 ·exact fst_mono (fst_list (i := 2) (j := 1) (o := 2) (e := 207) (sz := 6) (ety := .struct (.cons 0 .str (.cons 1 (.int .i8) (.cons 2 (.int .i32) (.cons 3 .bytes (.cons 4 .bytes .nil))))) (some 5) 6) iat_C (by kernel_rfl) (by kernel_rfl) (by kernel_rfl) (by kernel_rfl) (by kernel_rfl) rfl (by kernel_rfl) rfl (mk_fill (T := 108) (k := 2) iat_C (by kernel_rfl) (by kernel_rfl) (by kernel_rfl) (by kernel_rfl) rfl (by kernel_rfl) (by kernel_rfl) (by kernel_rfl) rfl (by kernel_rfl) (by kernel_rfl) (by kernel_rfl)) (app_fill (T := 108) (k := 2) (by kernel_rfl) (by kernel_rfl) mk_AlterUserSCRAMCredentialsRequestUpsertion (by kernel_rfl) (by kernel_rfl) (by kernel_rfl) (by kernel_rfl) (by kernel_rfl) (by kernel_rfl) (by kernel_rfl) rfl (by kernel_rfl)) (by kernel_rfl) rfl rfl (by kernel_rfl) (by kernel_rfl)) (by simp [zeroW]) (fun _ _ => fk_list) (fun _ h => fo_list h)
 refine rest_tags rfl ?_
 exact tags_set rfl (by kernel_rfl) (by kernel_rfl) (by kernel_rfl) rfl (by kernel_rfl) (by kernel_rfl) (by kernel_rfl) (tag_fill (T := 108) (kt := 3) (TG := 64) (by kernel_rfl) setTag_spec (by kernel_rfl) (by kernel_rfl) (by kernel_rfl) (by kernel_rfl) (by kernel_rfl) (by kernel_rfl) (by kernel_rfl) (by kernel_rfl)) (by kernel_rfl)
theorem set_AlterUserSCRAMCredentialsRequest : SetC Try.prog 100 { gAlterUserSCRAMCredentialsRequest with tg := some 3 } :=
 set_rule Try.func100 rfl rfl rfl (by kernel_rfl) (by kernel_rfl) rfl rfl rfl (by decide)
theorem make_AlterUserSCRAMCredentialsRequest : MakeC Try.prog 40 Zf Zk Zg := by
 refine make_rule (σ := gAlterUserSCRAMCredentialsRequest) (σa := aAlterUserSCRAMCredentialsRequest) (ot := 3) (zc := #[.int .i16 0, .slice none 0 0, .slice none 0 0, .map none]) Try.func40 rfl rfl rfl (by kernel_rfl) (by kernel_rfl) (by kernel_rfl) (by kernel_rfl) (by kernel_rfl) (by kernel_rfl) (by kernel_rfl) (by decide) (fun w F => ?_) rfl set_AlterUserSCRAMCredentialsRequest fill_AlterUserSCRAMCredentialsRequest app_AlterUserSCRAMCredentialsRequest rfl rfl rfl
 exact Lay.zero_rep gAlterUserSCRAMCredentialsRequest.lay _ (by repeat' (first | rfl | trivial | apply And.intro))
end Go.Proofs.Ytmehfgiadapekaa
