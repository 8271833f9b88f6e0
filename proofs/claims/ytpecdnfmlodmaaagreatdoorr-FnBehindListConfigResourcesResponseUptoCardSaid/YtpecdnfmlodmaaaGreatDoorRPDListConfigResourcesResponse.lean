/-
  ListConfigResourcesResponse: AppendTo.
  ListConfigResourcesResponse: AppendTo.
-/
import Derived.Test.YtpecdnfmlodmaaaGreatDoorRPRListConfigResourcesResponse
import Derived.Test.YtpecdnfmlodmaaaGreatDoorRPYd
import Derived.Test.YtpecdnfmlodmaaaGreatDoorRPLaw
set_option linter.unusedSimpArgs false
set_option linter.unusedVariables false
namespace Go.Proofs.YtpecdnfmlodmaaaGreatDoorR
open Go Go.RowKit
abbrev aListConfigResourcesResponse : St := ⟨0, .cons 0 (.int .i16) (.cons 1 (.int .i32) (.cons 2 (.int .i16) (.cons 3 (.list (.struct (.cons 0 .str (.cons 1 (.int .i8) .nil)) (some 2) 3) 3) .nil))), some 4, 5⟩
abbrev aListConfigResourcesResponse_1 : St := ⟨11, .cons 0 .str (.cons 1 (.int .i8) .nil), some 2, 3⟩
set_option maxRecDepth 100000 in
theorem app_ListConfigResourcesResponse : AppToC Tryz.prog 104 aListConfigResourcesResponse (fun ver => decide ((0 : Int) <= ver)) Zk Zg := by
 refine app_top (m := 14) (N := 107) Tryz.func104 rfl rfl (by kernel_rfl) (by kernel_rfl) rfl rfl (by decide) (by decide) rfl ?_
 refine emitw_fields (σ := aListConfigResourcesResponse) (i := 1) rfl ?_ ?_ (by rfl)
 ·refine emit_had (σ := aListConfigResourcesResponse) (i := 1) (E := fun _ fl x => leafE 3 (-1) fl x) ?_ (by intro v l h; simp [Zk, Zf] at h; exact hadW_of (by decide) (by omega) (by omega)) (fun v l t _ => by simp [encW])
  refine emit_leaf (σ := aListConfigResourcesResponse) (i := 1) (o := 1) (ty := .int .i32) ?_ (by rfl) (by kernel_rfl) (by kernel_rfl) rfl rfl
  refine emit_call (av_i32 (null := (-1)) (fl := true)) (by kernel_rfl) (by rfl) (fun v l t h => by first | rfl | (obtain ⟨_, h⟩ := h; have h : l = true := h; subst h; rfl) | (obtain ⟨_, h⟩ := h; have h : l = false := h; subst h; rfl))
 ·refine emitw_fields (σ := aListConfigResourcesResponse) (i := 2) rfl ?_ ?_ (by rfl)
  ·refine emit_had (σ := aListConfigResourcesResponse) (i := 2) (E := fun _ fl x => leafE 2 (-1) fl x) ?_ (by intro v l h; simp [Zk, Zf] at h; exact hadW_of (by decide) (by omega) (by omega)) (fun v l t _ => by simp [encW])
   refine emit_leaf (σ := aListConfigResourcesResponse) (i := 2) (o := 2) (ty := .int .i16) ?_ (by rfl) (by kernel_rfl) (by kernel_rfl) rfl rfl
   refine emit_call (av_i16 (null := (-1)) (fl := true)) (by kernel_rfl) (by rfl) (fun v l t h => by first | rfl | (obtain ⟨_, h⟩ := h; have h : l = true := h; subst h; rfl) | (obtain ⟨_, h⟩ := h; have h : l = false := h; subst h; rfl))
  ·refine emitw_fields (σ := aListConfigResourcesResponse) (i := 3) rfl ?_ ?_ (by rfl)
   ·refine emit_had (σ := aListConfigResourcesResponse) (i := 3) (E := listE false (structW ([.mk 8 0 (-1) (-1) (-1) 0 0 [], .mk 1 1 (-1) (-1) (-1) 16 0 []]))) ?_ (by intro v l h; simp [Zk, Zf] at h; exact hadW_of (by decide) (by omega) (by omega)) (fun v l t _ => by simp [encW, listE] <;> rfl)
    refine emit_leaf (σ := aListConfigResourcesResponse) (i := 3) (o := 3) (ty := .list (.struct (.cons 0 .str (.cons 1 (.int .i8) .nil)) (some 2) 3) 3) ?_ (by rfl) (by kernel_rfl) (by kernel_rfl) rfl rfl
    refine emit_list ?_ ?_ (by rfl)
    ·refine emit_cond (rs := [_]) (tstw_flex (by rfl)) ?_ ?_ preC_stable (by rfl)
     ·refine emit_cnt ct_calen (by kernel_rfl) (by kernel_rfl) rfl (by rfl) (fun v l h => h.2)
     ·refine emit_cnt ct_alen (by kernel_rfl) (by kernel_rfl) rfl (by rfl) (fun v l h => h.2)
    ·refine emit_loop ?_ (by kernel_rfl) rfl (by rfl)
     refine emit_els (σe := aListConfigResourcesResponse_1) ?_ (by kernel_rfl) rfl (by rfl) (by rfl)
     refine emit_fields (σ := aListConfigResourcesResponse_1) (i := 0) rfl ?_ ?_ (by rfl)
     ·refine emit_had (σ := aListConfigResourcesResponse_1) (i := 0) (E := fun _ fl x => leafE 8 (-1) fl x) ?_ (by intro v l h; simp [Zk, Zf] at h; exact hadW_of (by decide) (by omega) (by omega)) (fun v l t _ => by simp [encW])
      refine emit_leaf (σ := aListConfigResourcesResponse_1) (i := 0) (o := 0) (ty := .str) ?_ (by rfl) (by kernel_rfl) (by kernel_rfl) rfl rfl
      refine emit_cond (rs := [_]) (tstw_flex (by rfl)) ?_ ?_ preV_stable (by rfl)
      ·refine emit_call (av_cstr (null := (-1)) (by decide)) (by kernel_rfl) (by rfl) (fun v l t h => by first | rfl | (obtain ⟨_, h⟩ := h; have h : l = true := h; subst h; rfl) | (obtain ⟨_, h⟩ := h; have h : l = false := h; subst h; rfl))
      ·refine emit_call (av_str (null := (-1)) (by decide)) (by kernel_rfl) (by rfl) (fun v l t h => by first | rfl | (obtain ⟨_, h⟩ := h; have h : l = true := h; subst h; rfl) | (obtain ⟨_, h⟩ := h; have h : l = false := h; subst h; rfl))
     ·refine emit_fields (σ := aListConfigResourcesResponse_1) (i := 1) rfl ?_ ?_ (by rfl)
      ·refine emit_cond (rs := [11]) (tstw_geq (by rfl)) ?_ ?_ (preH_stable (σ := aListConfigResourcesResponse_1) (i := 1)) (by rfl)
       ·refine emit_had (σ := aListConfigResourcesResponse_1) (i := 1) (E := fun _ fl x => leafE 1 (-1) fl x) ?_ (by intro v l h; simp [Zk, Zf] at h; exact hadW_of (by decide) (by omega) (by omega)) (fun v l t _ => by simp [encW])
        refine emit_leaf (σ := aListConfigResourcesResponse_1) (i := 1) (o := 1) (ty := .int .i8) ?_ (by rfl) (by kernel_rfl) (by kernel_rfl) rfl rfl
        refine emit_call (av_i8 (null := (-1)) (fl := true)) (by kernel_rfl) (by rfl) (fun v l t h => by first | rfl | (obtain ⟨_, h⟩ := h; have h : l = true := h; subst h; rfl) | (obtain ⟨_, h⟩ := h; have h : l = false := h; subst h; rfl))
       ·exact emit_lacks (by intro v l h; simp [Zk, Zf] at h; exact hadW_not (by omega))
      ·refine emit_tags ?_ ?_ (by rfl) (by rfl) (by rfl)
       ·refine emit_tagn (σ := aListConfigResourcesResponse_1) (o := 2) ?_ ?_ ?_ ?_ ?_ ?_ ?_ <;> first | rfl | decide | kernel_rfl
       ·refine emit_tage (σ := aListConfigResourcesResponse_1) (o := 2) ?_ ?_ ?_ ?_ ?_ <;> first | rfl | decide | kernel_rfl
   ·refine emitw_tags ?_ (emitw_end (by rfl))
    refine emit_tags ?_ ?_ (by rfl) (by rfl) (by rfl)
    ·refine emit_tagn (σ := aListConfigResourcesResponse) (o := 4) ?_ ?_ ?_ ?_ ?_ ?_ ?_ <;> first | rfl | decide | kernel_rfl
    ·refine emit_tage (σ := aListConfigResourcesResponse) (o := 4) ?_ ?_ ?_ ?_ ?_ <;> first | rfl | decide | kernel_rfl
end Go.Proofs.YtpecdnfmlodmaaaGreatDoorR
set_option linter.unusedSimpArgs false
set_option linter.unusedVariables false
namespace Go.Proofs.YtpecdnfmlodmaaaGreatDoorR
open Go Go.RowKit
theorem new_ListConfigResourcesResponse : NewC Tryz.prog 99 sListConfigResourcesResponse v_ListConfigResourcesResponse := by
 refine new_rule (z := .agg #[.int .i16 0, .int .i32 0, .int .i16 0, .slice none 0 0, .map none]) Tryz.func99 rfl rfl rfl (by kernel_rfl) (by decide) (fun w => ?_) d_sListConfigResourcesResponse (by kernel_rfl)
 exact zero_ok (lay := sListConfigResourcesResponse.lay) (tg := sListConfigResourcesResponse.tg) (z := from' #[.int .i16 0, .int .i32 0, .int .i16 0, .slice none 0 0, .map none] 0) (by repeat' (first | rfl | trivial | apply And.intro)) (by rfl) w _
theorem set_ListConfigResourcesResponse : SetC Tryz.prog 102 sListConfigResourcesResponse :=
 set_rule Tryz.func102 rfl rfl rfl (by kernel_rfl) (by kernel_rfl) rfl rfl rfl (by decide)
theorem doors_ListConfigResourcesResponse : ∃ ft, BehC Tryz.prog 41 Zf ft v_ListConfigResourcesResponse Zk Zg /\ WrI Zk ft v_ListConfigResourcesResponse Zg := by
 obtain ⟨ft, hr, hw⟩ := read_ListConfigResourcesResponse
 refine ⟨ft, ?_, hw⟩
 exact beh_rule (eb := 5) Tryz.func41 rfl rfl rfl (by kernel_rfl) (by kernel_rfl) (by kernel_rfl) (by kernel_rfl) (by kernel_rfl) (by kernel_rfl) (by kernel_rfl) (by kernel_rfl) (by kernel_rfl) new_ListConfigResourcesResponse set_ListConfigResourcesResponse (rf_rule Tryz.func103 rfl rfl rfl hr (by kernel_rfl)) app_ListConfigResourcesResponse rfl rfl rfl (by decide)
end Go.Proofs.YtpecdnfmlodmaaaGreatDoorR
