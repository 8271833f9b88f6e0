/-
  What kbin's functions put behind octets: yes or no, sixteen octets, octets with their length, texts that may be none.
  What kbin puts behind octets of a message's fields.
-/
import Derived.Test.YtmehfgiadapekaaGreatPUu
import Derived.Test.YtmehfgiadapekaaGreatPYr
set_option linter.unusedSimpArgs false
set_option linter.unusedVariables false
namespace Go.Proofs.YtmehfgiadapekaaGreat
open Go Go.RowKit
theorem arr16_put : arr16 Tryz.prog 78 5 = true := by kernel_rfl
set_option maxRecDepth 100000 in
theorem app_uuid {w : World} {base : Nat} {dv : Value} {out us : List UInt8} {cs : Array Value} (hown : OwnB w base dv out) (hb : base <= w.heap.size) (hs : cs.size = 16) (hul : us.length = 16) (hus : ∀ i (h : i < us.length), from' cs 0 i = .int .u8 (us[i]).toNat) (hl : out.length + us.length <= 4294967296) :
  PutC Tryz.prog 44 #[dv, .agg cs] w base dv out us := by
 refine calls_of_wp Tryz.func44 rfl ?_
 rw [Tryz.ntmps44]
 refine wp_act (fun a : Act => Act.get a 0 = dv /\ Act.get a 1 = .agg cs /\ a.tmps.size = 8 /\ a.defers = []) ⟨by rw [Zj _ _ _ (by simp)]; rfl, by rw [Zj _ _ _ (by simp)]; rfl, by simp, rfl⟩ ?_
 rintro a ⟨a0, a1, aN, ad⟩
 refine wp_seq (wp_region_lit (Zv rfl x_box (Zv rfl Zi (wpList_nil ?_))))
 rw [show a.eval (.tmp 1) = .agg cs from a1]
 have g1 := Zh w (.cells (Value.agg cs).cells 78)
 have m1 : Mod none' w (w.alloc (.cells (Value.agg cs).cells 78)) := (Mod.refl w).alloc _
 generalize w.alloc (.cells (Value.agg cs).cells 78) = w1 at *
 replace g1 : w1.heap[w.heap.size]? = some (.cells cs 78 (0, 0)) := g1
 refine wp_seq (wp_region_lit (Zv rfl Zm (Zv rfl (x_sliceArr arr16_put (b := w.heap.size) (o := 0) ?_) ?_)))
 ·simp (disch := first | omega | simp only [Zs]; omega) only [Zo, Ze, Zn, Zq]
 have hown1 : OwnB w1 base dv out := hown.mod m1 (fun _ _ f => f)
 refine wpl_octsF (base := base) (v := dv) (xv := .slice (some ⟨w.heap.size, 0, none⟩) 16 16) (bs := out) (cs := us) octs_info ?_ ?_ hown1 (.inr ⟨w.heap.size, 0, 16, cs, _, (0, 0), by rw [hul], by omega, by simp only [maxLen]; omega, g1, fun i hi => ?_⟩) hl (by have := m1.size; omega) ?_
 ·simp (disch := first | omega | simp only [Zs]; omega) only [Zo, Ze, Zn, Zq, a0]
 ·simp (disch := first | omega | simp only [Zs]; omega) only [Zo, Ze, Zn, Zq]
 ·have h := hus i hi
  simp only [from', Nat.zero_add] at h ⊢
  rw [Array.getElem?_eq_getElem (by omega)]
  simpa [show i < cs.size by omega] using h
 intro v' w' h1 h2
 refine Zv rfl Zi (wpList_nil (wp_ret ?_))
 refine bodyPost_ret (results_tmp rfl _ _ _) ?_ ⟨_, rfl, ?_, ?_⟩
 ·simp only [Zd]; exact ad
 ·rw [show ∀ (a : Act), a.tmps.getD 4 undef = Act.get a 4 from fun _ => rfl]
  simp (disch := first | omega | simp only [Zs]; omega) only [Zo, Ze, Zn, Zq]
  exact h1
 ·rw [show ∀ (a : Act), a.tmps.getD 4 undef = Act.get a 4 from fun _ => rfl]
  simp (disch := first | omega | simp only [Zs]; omega) only [Zo, Ze, Zn, Zq]
  exact ⟨m1.none.trans h2.mod, fun k e => by rcases h2.own k e with h | h; exact .inl h; exact .inr (by have := m1.size; omega)⟩
/-- what is put behind octets of a text that may be none -/
def nstrE (fl : Bool) : Option (List UInt8) -> List UInt8
 | none => nulE fl 2
 | some bs => cntE fl bs.length 2 ++ bs
set_option maxRecDepth 100000 in
theorem app_nstr {w : World} {base : Nat} {dv v : Value} {out : List UInt8} {o : Option (List UInt8)} {F : Nat -> Prop} (hown : OwnB w base dv out) (hb : base <= w.heap.size) (ho : PStr w F v o) (hF : ∀ k, F k -> k < base) (hl : out.length + (nstrE false o).length <= 4294967296) :
  PutC Tryz.prog 48 #[dv, v] w base dv out (nstrE false o) := by
 refine calls_of_wp Tryz.func48 rfl ?_
 rw [Tryz.ntmps48]
 refine wp_act (fun a : Act => Act.get a 0 = dv /\ Act.get a 1 = v /\ a.tmps.size = 14 /\ a.defers = []) ⟨by rw [Zj _ _ _ (by simp)]; rfl, by rw [Zj _ _ _ (by simp)]; rfl, by simp, rfl⟩ ?_
 rintro a ⟨a0, a1, aN, ad⟩
 refine wp_seq (wp_region_lit (Zv rfl Zi (wpList_nil ?_)))
 obtain ⟨pa, hpa, hno⟩ : ∃ pa, v = .pointer pa /\ pa.isNone = o.isNone := by
  cases o with
  | none => exact ⟨none, ho, rfl⟩
  | some bs => obtain ⟨k, t, _, h, _⟩ := ho; exact ⟨_, h, rfl⟩
 refine wp_seq (wp_seq (wp_region_lit (Zv rfl Zm (Zv rfl (x_eqlPtr (m := pa) (by kernel_rfl) (fun _ => rfl) ?_) (wpList_nil ?_)))))
 ·simp (disch := first | omega | simp only [Zs]; omega) only [Zo, Ze, Zn, Zq, a1]
  exact hpa
 rw [hno]
 refine wp_act (fun a : Act => Act.get a 0 = dv /\ Act.get a 1 = v /\ Act.get a 6 = .bool o.isNone /\ a.tmps.size = 14 /\ a.defers = []) ⟨?_, ?_, ?_, ?_, ?_⟩ ?_
 ·simp (disch := first | omega | simp only [Zs]; omega) only [Zo, Ze, Zn, Zq, a0]
 ·simp (disch := first | omega | simp only [Zs]; omega) only [Zo, Ze, Zn, Zq, a1]
 ·simp (disch := first | omega | simp only [Zs]; omega) only [Zo, Ze, Zn, Zq]
 ·simp only [Zs]; exact aN
 ·simp only [Zd]; exact ad
 clear a0 a1 aN ad a
 rintro a ⟨a0, a1, a6, aN, ad⟩
 cases o with
 | none =>
  refine wp_cond_true (by rw [Ze]; exact a6) (wp_seq (wp_region_lit (Zv rfl Zm (wpl_call rfl (Zy (by kernel_rfl) rfl) (R := fun e w' => ∃ v, e = .returned v /\ OwnB w' base v (out ++ nulE false 2) /\ Fine dv v w w') ?_ ?_))))
  ·rw [show ∀ (a : Act) u, (#[Operand.tmp 7, .const u] : Array Operand).map a.eval = #[Act.get a 7, u] from fun a u => by simp [Ze]; rfl]
   simp (disch := first | omega | simp only [Zs]; omega) only [Zo, Ze, Zn, Zq, a0]
   exact (app_i16 (n := -1) hown hb hl).out
  rintro e w1 ⟨v1, rfl, k1, k2⟩
  refine ⟨_, rfl, Zv rfl Zi (wpList_nil (wp_ret ?_))⟩
  simp only [Exit.then, Exit.inBlock]
  refine bodyPost_ret (results_tmp rfl _ _ _) ?_ ⟨_, rfl, ?_, ?_⟩
  ·simp only [Zd]; exact ad
  ·rw [show ∀ (a : Act), a.tmps.getD 4 undef = Act.get a 4 from fun _ => rfl]
   simp (disch := first | omega | simp only [Zs]; omega) only [Zo, Ze, Zn, Zq]
   exact k1
  ·rw [show ∀ (a : Act), a.tmps.getD 4 undef = Act.get a 4 from fun _ => rfl]
   simp (disch := first | omega | simp only [Zs]; omega) only [Zo, Ze, Zn, Zq]
   exact k2
 | some bs =>
  obtain ⟨kb, tb, hk, hvp, hkb⟩ := ho
  refine wp_cond_false (by rw [Ze]; exact a6) (wp_skip ?_)
  simp only [Exit.then, Exit.inBlock]
  refine wp_seq (wp_region_lit (Zv rfl Zm (Zv rfl Zm (Zv rfl (x_nilCheck (q := ⟨kb, 0, none⟩) ?_) (Zv rfl (Zl (by kernel_rfl) (b := kb) (o := 0) (v := .string (str bs)) ?_ (by rw [Zc hkb]; rfl)) (wpl_call rfl (Zy (by kernel_rfl) rfl) (R := fun e w' => ∃ v, e = .returned v /\ OwnB w' base v (out ++ (cntE false bs.length 2 ++ bs)) /\ Fine dv v w w') ?_ ?_))))))
  ·simp (disch := first | omega | simp only [Zs]; omega) only [Zo, Ze, Zn, Zq, a1]
   exact hvp
  ·simp (disch := first | omega | simp only [Zs]; omega) only [Zo, Ze, Zn, Zq]
  ·rw [show ∀ a : Act, (#[Operand.tmp 9, .tmp 12] : Array Operand).map a.eval = #[Act.get a 9, Act.get a 12] from fun a => by simp [Ze]]
   simp (disch := first | omega | simp only [Zs]; omega) only [Zo, Ze, Zn, Zq, a0]
   exact (app_str hown hb hl).out
  rintro e w1 ⟨v1, rfl, k1, k2⟩
  refine ⟨_, rfl, Zv rfl Zi (wpList_nil (wp_ret ?_))⟩
  refine bodyPost_ret (results_tmp rfl _ _ _) ?_ ⟨_, rfl, ?_, ?_⟩
  ·simp only [Zd]; exact ad
  ·rw [show ∀ (a : Act), a.tmps.getD 4 undef = Act.get a 4 from fun _ => rfl]
   simp (disch := first | omega | simp only [Zs]; omega) only [Zo, Ze, Zn, Zq]
   exact k1
  ·rw [show ∀ (a : Act), a.tmps.getD 4 undef = Act.get a 4 from fun _ => rfl]
   simp (disch := first | omega | simp only [Zs]; omega) only [Zo, Ze, Zn, Zq]
   exact k2
set_option maxRecDepth 100000 in
theorem app_cnstr {w : World} {base : Nat} {dv v : Value} {out : List UInt8} {o : Option (List UInt8)} {F : Nat -> Prop} (hown : OwnB w base dv out) (hb : base <= w.heap.size) (ho : PStr w F v o) (hF : ∀ k, F k -> k < base) (hl : out.length + (nstrE true o).length <= 4294967296) :
  PutC Tryz.prog 47 #[dv, v] w base dv out (nstrE true o) := by
 refine calls_of_wp Tryz.func47 rfl ?_
 rw [Tryz.ntmps47]
 refine wp_act (fun a : Act => Act.get a 0 = dv /\ Act.get a 1 = v /\ a.tmps.size = 14 /\ a.defers = []) ⟨by rw [Zj _ _ _ (by simp)]; rfl, by rw [Zj _ _ _ (by simp)]; rfl, by simp, rfl⟩ ?_
 rintro a ⟨a0, a1, aN, ad⟩
 refine wp_seq (wp_region_lit (Zv rfl Zi (wpList_nil ?_)))
 obtain ⟨pa, hpa, hno⟩ : ∃ pa, v = .pointer pa /\ pa.isNone = o.isNone := by
  cases o with
  | none => exact ⟨none, ho, rfl⟩
  | some bs => obtain ⟨k, t, _, h, _⟩ := ho; exact ⟨_, h, rfl⟩
 refine wp_seq (wp_seq (wp_region_lit (Zv rfl Zm (Zv rfl (x_eqlPtr (m := pa) (by kernel_rfl) (fun _ => rfl) ?_) (wpList_nil ?_)))))
 ·simp (disch := first | omega | simp only [Zs]; omega) only [Zo, Ze, Zn, Zq, a1]
  exact hpa
 rw [hno]
 refine wp_act (fun a : Act => Act.get a 0 = dv /\ Act.get a 1 = v /\ Act.get a 6 = .bool o.isNone /\ a.tmps.size = 14 /\ a.defers = []) ⟨?_, ?_, ?_, ?_, ?_⟩ ?_
 ·simp (disch := first | omega | simp only [Zs]; omega) only [Zo, Ze, Zn, Zq, a0]
 ·simp (disch := first | omega | simp only [Zs]; omega) only [Zo, Ze, Zn, Zq, a1]
 ·simp (disch := first | omega | simp only [Zs]; omega) only [Zo, Ze, Zn, Zq]
 ·simp only [Zs]; exact aN
 ·simp only [Zd]; exact ad
 clear a0 a1 aN ad a
 rintro a ⟨a0, a1, a6, aN, ad⟩
 cases o with
 | none =>
  refine wp_cond_true (by rw [Ze]; exact a6) (wp_seq (wp_region_lit (Zv rfl Zm (wpl_call rfl (Zy (by kernel_rfl) rfl) (R := fun e w' => ∃ v, e = .returned v /\ OwnB w' base v (out ++ nulE true 2) /\ Fine dv v w w') ?_ ?_))))
  ·rw [show ∀ (a : Act) u, (#[Operand.tmp 7, .const u] : Array Operand).map a.eval = #[Act.get a 7, u] from fun a u => by simp [Ze]; rfl]
   simp (disch := first | omega | simp only [Zs]; omega) only [Zo, Ze, Zn, Zq, a0]
   have e : uvE 0 = [0] := by rw [uvE_small (by decide)]; rfl
   have h := app_uv (n := 0) (by decide) hown hb (by rw [e]; exact hl)
   rw [e] at h
   exact h.out
  rintro e w1 ⟨v1, rfl, k1, k2⟩
  refine ⟨_, rfl, Zv rfl Zi (wpList_nil (wp_ret ?_))⟩
  simp only [Exit.then, Exit.inBlock]
  refine bodyPost_ret (results_tmp rfl _ _ _) ?_ ⟨_, rfl, ?_, ?_⟩
  ·simp only [Zd]; exact ad
  ·rw [show ∀ (a : Act), a.tmps.getD 4 undef = Act.get a 4 from fun _ => rfl]
   simp (disch := first | omega | simp only [Zs]; omega) only [Zo, Ze, Zn, Zq]
   exact k1
  ·rw [show ∀ (a : Act), a.tmps.getD 4 undef = Act.get a 4 from fun _ => rfl]
   simp (disch := first | omega | simp only [Zs]; omega) only [Zo, Ze, Zn, Zq]
   exact k2
 | some bs =>
  obtain ⟨kb, tb, hk, hvp, hkb⟩ := ho
  refine wp_cond_false (by rw [Ze]; exact a6) (wp_skip ?_)
  simp only [Exit.then, Exit.inBlock]
  refine wp_seq (wp_region_lit (Zv rfl Zm (Zv rfl Zm (Zv rfl (x_nilCheck (q := ⟨kb, 0, none⟩) ?_) (Zv rfl (Zl (by kernel_rfl) (b := kb) (o := 0) (v := .string (str bs)) ?_ (by rw [Zc hkb]; rfl)) (wpl_call rfl (Zy (by kernel_rfl) rfl) (R := fun e w' => ∃ v, e = .returned v /\ OwnB w' base v (out ++ (cntE true bs.length 2 ++ bs)) /\ Fine dv v w w') ?_ ?_))))))
  ·simp (disch := first | omega | simp only [Zs]; omega) only [Zo, Ze, Zn, Zq, a1]
   exact hvp
  ·simp (disch := first | omega | simp only [Zs]; omega) only [Zo, Ze, Zn, Zq]
  ·rw [show ∀ a : Act, (#[Operand.tmp 9, .tmp 12] : Array Operand).map a.eval = #[Act.get a 9, Act.get a 12] from fun a => by simp [Ze]]
   simp (disch := first | omega | simp only [Zs]; omega) only [Zo, Ze, Zn, Zq, a0]
   exact (app_cstr hown hb hl).out
  rintro e w1 ⟨v1, rfl, k1, k2⟩
  refine ⟨_, rfl, Zv rfl Zi (wpList_nil (wp_ret ?_))⟩
  refine bodyPost_ret (results_tmp rfl _ _ _) ?_ ⟨_, rfl, ?_, ?_⟩
  ·simp only [Zd]; exact ad
  ·rw [show ∀ (a : Act), a.tmps.getD 4 undef = Act.get a 4 from fun _ => rfl]
   simp (disch := first | omega | simp only [Zs]; omega) only [Zo, Ze, Zn, Zq]
   exact k1
  ·rw [show ∀ (a : Act), a.tmps.getD 4 undef = Act.get a 4 from fun _ => rfl]
   simp (disch := first | omega | simp only [Zs]; omega) only [Zo, Ze, Zn, Zq]
   exact k2
end Go.Proofs.YtmehfgiadapekaaGreat
set_option linter.unusedSimpArgs false
set_option linter.unusedVariables false
namespace Go.Proofs.YtmehfgiadapekaaGreat
open Go Go.RowKit
theorem av_i8 {null : Int} {fl : Bool} : AppV Tryz.prog 50 (.int .i8) (leafE 1 null fl) := by
 intro w F base dv out v t hown hb hr hF hl
 rcases hr with ⟨_, _, hr⟩ | ⟨h, _⟩
 ·simp only [Rep] at hr
  obtain ⟨n, rfl, _, rfl⟩ := hr
  have e : leafE 1 null fl (.num n) = fixedE n (width 1) := by simp [leafE, Tr.N_num]
  rw [e] at hl ⊢
  rw [fixedE_length] at hl
  exact app_i8 hown hb hl
 ·cases h
theorem av_i16 {null : Int} {fl : Bool} : AppV Tryz.prog 46 (.int .i16) (leafE 2 null fl) := by
 intro w F base dv out v t hown hb hr hF hl
 rcases hr with ⟨_, _, hr⟩ | ⟨h, _⟩
 ·simp only [Rep] at hr
  obtain ⟨n, rfl, _, rfl⟩ := hr
  have e : leafE 2 null fl (.num n) = fixedE n (width 2) := by simp [leafE, Tr.N_num]
  rw [e] at hl ⊢
  rw [fixedE_length] at hl
  exact app_i16 hown hb hl
 ·cases h
theorem av_i32 {null : Int} {fl : Bool} : AppV Tryz.prog 45 (.int .i32) (leafE 3 null fl) := by
 intro w F base dv out v t hown hb hr hF hl
 rcases hr with ⟨_, _, hr⟩ | ⟨h, _⟩
 ·simp only [Rep] at hr
  obtain ⟨n, rfl, _, rfl⟩ := hr
  have e : leafE 3 null fl (.num n) = fixedE n (width 3) := by simp [leafE, Tr.N_num]
  rw [e] at hl ⊢
  rw [fixedE_length] at hl
  exact app_i32 hown hb hl
 ·cases h
theorem av_i64 {null : Int} {fl : Bool} : AppV Tryz.prog 49 (.int .i64) (leafE 4 null fl) := by
 intro w F base dv out v t hown hb hr hF hl
 rcases hr with ⟨_, _, hr⟩ | ⟨h, _⟩
 ·simp only [Rep] at hr
  obtain ⟨n, rfl, _, rfl⟩ := hr
  have e : leafE 4 null fl (.num n) = fixedE n (width 4) := by simp [leafE, Tr.N_num]
  rw [e] at hl ⊢
  rw [fixedE_length] at hl
  exact app_i64 hown hb hl
 ·cases h
theorem av_nstr {null : Int} (hn : 0 <= null) : AppV Tryz.prog 48 .pstr (leafE 8 null false) := by
 intro w F base dv out v t hown hb hr hF hl
 rcases hr with ⟨_, _, hr⟩ | ⟨h, _⟩
 ·simp only [Rep] at hr
  obtain ⟨o, ho, _, rfl⟩ := hr
  cases o with
  | none =>
   have e : leafE 8 null false (.ofOpt none) = nulE false 2 := by simp [leafE, Tr.ofOpt, Tr.Z_nul, hn]
   rw [e] at hl ⊢
   exact app_nstr (o := none) hown hb ho hF hl
  | some bs =>
   have e : leafE 8 null false (.ofOpt (some bs)) = cntE false bs.length 2 ++ bs := by simp [leafE, Tr.ofOpt, Tr.S_oct, Tr.Z_oct]
   rw [e] at hl ⊢
   exact app_nstr (o := some bs) hown hb ho hF hl
 ·cases h
theorem av_cnstr {null : Int} (hn : 0 <= null) : AppV Tryz.prog 47 .pstr (leafE 8 null true) := by
 intro w F base dv out v t hown hb hr hF hl
 rcases hr with ⟨_, _, hr⟩ | ⟨h, _⟩
 ·simp only [Rep] at hr
  obtain ⟨o, ho, _, rfl⟩ := hr
  cases o with
  | none =>
   have e : leafE 8 null true (.ofOpt none) = nulE true 2 := by simp [leafE, Tr.ofOpt, Tr.Z_nul, hn]
   rw [e] at hl ⊢
   exact app_cnstr (o := none) hown hb ho hF hl
  | some bs =>
   have e : leafE 8 null true (.ofOpt (some bs)) = cntE true bs.length 2 ++ bs := by simp [leafE, Tr.ofOpt, Tr.S_oct, Tr.Z_oct]
   rw [e] at hl ⊢
   exact app_cnstr (o := some bs) hown hb ho hF hl
 ·cases h
theorem av_uuid {null : Int} {fl : Bool} : AppV Tryz.prog 44 .uuid (leafE 7 null fl) := by
 intro w F base dv out v t hown hb hr hF hl
 rcases hr with ⟨h, _⟩ | ⟨_, cs, rfl, hs, _, hr⟩
 ·simp [Ty.size] at h
 ·simp only [Rep] at hr
  obtain ⟨us, hul, hus, rfl⟩ := hr
  have e : leafE 7 null fl (.oct us) = us := by simp [leafE, Tr.S_oct]
  rw [e] at hl ⊢
  exact app_uuid hown hb hs hul hus hl
theorem ct_alen : CntC Tryz.prog 43 false := by
 intro w base dv out n hown hb hl
 exact app_alen hown hb (by simpa [cntE, fixedE_length] using hl)
theorem ct_calen : CntC Tryz.prog 42 true := by
 intro w base dv out n hown hb hl
 exact app_calen hown hb hl
end Go.Proofs.YtmehfgiadapekaaGreat
