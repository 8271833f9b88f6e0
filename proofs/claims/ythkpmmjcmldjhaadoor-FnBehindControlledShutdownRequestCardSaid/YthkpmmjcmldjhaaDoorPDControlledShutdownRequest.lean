/-
  ControlledShutdownRequest: AppendTo.
  ControlledShutdownRequest: AppendTo.
-/
import Derived.Test.YthkpmmjcmldjhaaDoorPRControlledShutdownRequest
import Derived.Test.YthkpmmjcmldjhaaDoorPYd
set_option linter.unusedSimpArgs false
set_option linter.unusedVariables false
namespace Go.Proofs.YthkpmmjcmldjhaaDoor
open Go Go.RowKit
abbrev aControlledShutdownRequest : St := ⟨0, .cons 0 (.int .i16) (.cons 1 (.int .i32) (.cons 2 (.int .i64) .nil)), some 3, 4⟩
set_option maxRecDepth 100000 in
theorem app_ControlledShutdownRequest : AppToC Tryd.prog 24 aControlledShutdownRequest (fun ver => decide ((3 : Int) <= ver)) Zk Zg := by
 refine app_top (m := 9) (N := 48) Tryd.func24 rfl rfl (by kernel_rfl) (by kernel_rfl) rfl rfl (by decide) (by decide) rfl ?_
 refine emitw_fields (σ := aControlledShutdownRequest) (i := 1) rfl ?_ ?_ (by rfl)
 ·refine emit_had (σ := aControlledShutdownRequest) (i := 1) (E := fun _ fl x => leafE 3 (-1) fl x) ?_ (by intro v l h; simp [Zk, Zf] at h; exact hadW_of (by decide) (by omega) (by omega)) (fun v l t _ => by simp [encW])
  refine emit_leaf (σ := aControlledShutdownRequest) (i := 1) (o := 1) (ty := .int .i32) ?_ (by rfl) (by kernel_rfl) (by kernel_rfl) rfl rfl
  refine emit_call (av_i32 (null := (-1)) (fl := true)) (by kernel_rfl) (by rfl) (fun v l t h => by first | rfl | (obtain ⟨_, h⟩ := h; have h : l = true := h; subst h; rfl) | (obtain ⟨_, h⟩ := h; have h : l = false := h; subst h; rfl))
 ·refine emitw_fields (σ := aControlledShutdownRequest) (i := 2) rfl ?_ ?_ (by rfl)
  ·refine emit_cond (rs := [0]) (tstw_geq (by rfl)) ?_ ?_ (preH_stable (σ := aControlledShutdownRequest) (i := 2)) (by rfl)
   ·refine emit_had (σ := aControlledShutdownRequest) (i := 2) (E := fun _ fl x => leafE 4 (-1) fl x) ?_ (by intro v l h; simp [Zk, Zf] at h; exact hadW_of (by decide) (by omega) (by omega)) (fun v l t _ => by simp [encW])
    refine emit_leaf (σ := aControlledShutdownRequest) (i := 2) (o := 2) (ty := .int .i64) ?_ (by rfl) (by kernel_rfl) (by kernel_rfl) rfl rfl
    refine emit_call (av_i64 (null := (-1)) (fl := true)) (by kernel_rfl) (by rfl) (fun v l t h => by first | rfl | (obtain ⟨_, h⟩ := h; have h : l = true := h; subst h; rfl) | (obtain ⟨_, h⟩ := h; have h : l = false := h; subst h; rfl))
   ·exact emit_lacks (by intro v l h; simp [Zk, Zf] at h; exact hadW_not (by omega))
  ·refine emitw_tags ?_ (emitw_end (by rfl))
   refine emit_tags ?_ ?_ (by rfl) (by rfl) (by rfl)
   ·refine emit_tagn (σ := aControlledShutdownRequest) (o := 3) ?_ ?_ ?_ ?_ ?_ ?_ ?_ <;> first | rfl | decide | kernel_rfl
   ·refine emit_tage (σ := aControlledShutdownRequest) (o := 3) ?_ ?_ ?_ ?_ ?_ <;> first | rfl | decide | kernel_rfl
end Go.Proofs.YthkpmmjcmldjhaaDoor
set_option linter.unusedSimpArgs false
set_option linter.unusedVariables false
namespace Go.Proofs.YthkpmmjcmldjhaaDoor
open Go Go.RowKit
theorem new_ControlledShutdownRequest : NewC Tryd.prog 19 sControlledShutdownRequest v_ControlledShutdownRequest := by
 refine new_rule (z := .agg #[.int .i16 0, .int .i32 0, .int .i64 0, .map none]) Tryd.func19 rfl rfl rfl (by kernel_rfl) (by decide) (fun w => ?_) d_sControlledShutdownRequest (by kernel_rfl)
 exact zero_ok (lay := sControlledShutdownRequest.lay) (tg := sControlledShutdownRequest.tg) (z := from' #[.int .i16 0, .int .i32 0, .int .i64 0, .map none] 0) (by repeat' (first | rfl | trivial | apply And.intro)) (by rfl) w _
theorem set_ControlledShutdownRequest : SetC Tryd.prog 22 sControlledShutdownRequest :=
 set_rule Tryd.func22 rfl rfl rfl (by kernel_rfl) (by kernel_rfl) rfl rfl rfl (by decide)
theorem doors_ControlledShutdownRequest : ∃ ft, BehC Tryd.prog 10 Zf ft v_ControlledShutdownRequest Zk Zg /\ WrI Zk ft v_ControlledShutdownRequest Zg := by
 obtain ⟨ft, hr, hw⟩ := read_ControlledShutdownRequest
 refine ⟨ft, ?_, hw⟩
 exact beh_rule (eb := 5) Tryd.func10 rfl rfl rfl (by kernel_rfl) (by kernel_rfl) (by kernel_rfl) (by kernel_rfl) (by kernel_rfl) (by kernel_rfl) (by kernel_rfl) (by kernel_rfl) (by kernel_rfl) new_ControlledShutdownRequest set_ControlledShutdownRequest (rf_rule Tryd.func23 rfl rfl rfl hr (by kernel_rfl)) app_ControlledShutdownRequest rfl rfl rfl (by decide)
end Go.Proofs.YthkpmmjcmldjhaaDoor
