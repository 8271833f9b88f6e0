/-
  What kbin's functions put behind octets: yes or no, sixteen octets, octets with their length, texts that may be none.
  What kbin puts behind octets of a message's fields.
-/
import Derived.Laws.IdiomCopy
import Derived.Test.YthkpmmjcmldjhaaGreatDoorRRPYr
set_option linter.unusedSimpArgs false
set_option linter.unusedVariables false
namespace Go.Proofs.YthkpmmjcmldjhaaGreatDoorRR
open Go Go.RowKit
/-- what is put behind octets of a text that may be none -/
def nstrE (fl : Bool) : Option (List UInt8) -> List UInt8
 | none => nulE fl 2
 | some bs => cntE fl bs.length 2 ++ bs
set_option maxRecDepth 100000 in
theorem app_nstr {w : World} {base : Nat} {dv v : Value} {out : List UInt8} {o : Option (List UInt8)} {F : Nat -> Prop} (hown : OwnB w base dv out) (hb : base <= w.heap.size) (ho : PStr w F v o) (hF : ∀ k, F k -> k < base) (hl : out.length + (nstrE false o).length <= 4294967296) :
  PutC Tryz.prog 45 #[dv, v] w base dv out (nstrE false o) := by
 refine calls_of_wp Tryz.func45 rfl ?_
 rw [Tryz.ntmps45]
 refine wp_act (fun a : Act => Act.get a 0 = dv /\ Act.get a 1 = v /\ a.tmps.size = 14 /\ a.defers = []) ⟨by rw [Zj _ _ _ (by simp)]; rfl, by rw [Zj _ _ _ (by simp)]; rfl, by simp, rfl⟩ ?_
 rintro a ⟨a0, a1, aN, ad⟩
 refine wp_seq (wp_region_lit (Zv rfl Zi (wpList_nil ?_)))
 obtain ⟨pa, hpa, hno⟩ : ∃ pa, v = .pointer pa /\ pa.isNone = o.isNone := by
  cases o with
  | none => exact ⟨none, ho, rfl⟩
  | some bs => obtain ⟨k, t, _, h, _⟩ := ho; exact ⟨_, h, rfl⟩
 refine wp_seq (wp_seq (wp_region_lit (Zv rfl Zm (Zv rfl (x_eqlPtr (m := pa) (by kernel_rfl) (fun _ => rfl) ?_) (wpList_nil ?_)))))
 ·simp (disch := first | omega | simp only [Zs]; omega) only [Zo, Ze, Zn, Zq, a1]
  exact hpa
 rw [hno]
 refine wp_act (fun a : Act => Act.get a 0 = dv /\ Act.get a 1 = v /\ Act.get a 6 = .bool o.isNone /\ a.tmps.size = 14 /\ a.defers = []) ⟨?_, ?_, ?_, ?_, ?_⟩ ?_
 ·simp (disch := first | omega | simp only [Zs]; omega) only [Zo, Ze, Zn, Zq, a0]
 ·simp (disch := first | omega | simp only [Zs]; omega) only [Zo, Ze, Zn, Zq, a1]
 ·simp (disch := first | omega | simp only [Zs]; omega) only [Zo, Ze, Zn, Zq]
 ·simp only [Zs]; exact aN
 ·simp only [Zd]; exact ad
 clear a0 a1 aN ad a
 rintro a ⟨a0, a1, a6, aN, ad⟩
 cases o with
 | none =>
  refine wp_cond_true (by rw [Ze]; exact a6) (wp_seq (wp_region_lit (Zv rfl Zm (wpl_call rfl (Zy (by kernel_rfl) rfl) (R := fun e w' => ∃ v, e = .returned v /\ OwnB w' base v (out ++ nulE false 2) /\ Fine dv v w w') ?_ ?_))))
  ·rw [show ∀ (a : Act) u, (#[Operand.tmp 7, .const u] : Array Operand).map a.eval = #[Act.get a 7, u] from fun a u => by simp [Ze]; rfl]
   simp (disch := first | omega | simp only [Zs]; omega) only [Zo, Ze, Zn, Zq, a0]
   exact (app_i16 (n := -1) hown hb hl).out
  rintro e w1 ⟨v1, rfl, k1, k2⟩
  refine ⟨_, rfl, Zv rfl Zi (wpList_nil (wp_ret ?_))⟩
  simp only [Exit.then, Exit.inBlock]
  refine bodyPost_ret (results_tmp rfl _ _ _) ?_ ⟨_, rfl, ?_, ?_⟩
  ·simp only [Zd]; exact ad
  ·rw [show ∀ (a : Act), a.tmps.getD 4 undef = Act.get a 4 from fun _ => rfl]
   simp (disch := first | omega | simp only [Zs]; omega) only [Zo, Ze, Zn, Zq]
   exact k1
  ·rw [show ∀ (a : Act), a.tmps.getD 4 undef = Act.get a 4 from fun _ => rfl]
   simp (disch := first | omega | simp only [Zs]; omega) only [Zo, Ze, Zn, Zq]
   exact k2
 | some bs =>
  obtain ⟨kb, tb, hk, hvp, hkb⟩ := ho
  refine wp_cond_false (by rw [Ze]; exact a6) (wp_skip ?_)
  simp only [Exit.then, Exit.inBlock]
  refine wp_seq (wp_region_lit (Zv rfl Zm (Zv rfl Zm (Zv rfl (x_nilCheck (q := ⟨kb, 0, none⟩) ?_) (Zv rfl (Zl (by kernel_rfl) (b := kb) (o := 0) (v := .string (str bs)) ?_ (by rw [Zc hkb]; rfl)) (wpl_call rfl (Zy (by kernel_rfl) rfl) (R := fun e w' => ∃ v, e = .returned v /\ OwnB w' base v (out ++ (cntE false bs.length 2 ++ bs)) /\ Fine dv v w w') ?_ ?_))))))
  ·simp (disch := first | omega | simp only [Zs]; omega) only [Zo, Ze, Zn, Zq, a1]
   exact hvp
  ·simp (disch := first | omega | simp only [Zs]; omega) only [Zo, Ze, Zn, Zq]
  ·rw [show ∀ a : Act, (#[Operand.tmp 9, .tmp 12] : Array Operand).map a.eval = #[Act.get a 9, Act.get a 12] from fun a => by simp [Ze]]
   simp (disch := first | omega | simp only [Zs]; omega) only [Zo, Ze, Zn, Zq, a0]
   exact (app_str hown hb hl).out
  rintro e w1 ⟨v1, rfl, k1, k2⟩
  refine ⟨_, rfl, Zv rfl Zi (wpList_nil (wp_ret ?_))⟩
  refine bodyPost_ret (results_tmp rfl _ _ _) ?_ ⟨_, rfl, ?_, ?_⟩
  ·simp only [Zd]; exact ad
  ·rw [show ∀ (a : Act), a.tmps.getD 4 undef = Act.get a 4 from fun _ => rfl]
   simp (disch := first | omega | simp only [Zs]; omega) only [Zo, Ze, Zn, Zq]
   exact k1
  ·rw [show ∀ (a : Act), a.tmps.getD 4 undef = Act.get a 4 from fun _ => rfl]
   simp (disch := first | omega | simp only [Zs]; omega) only [Zo, Ze, Zn, Zq]
   exact k2
set_option maxRecDepth 100000 in
theorem app_cnstr {w : World} {base : Nat} {dv v : Value} {out : List UInt8} {o : Option (List UInt8)} {F : Nat -> Prop} (hown : OwnB w base dv out) (hb : base <= w.heap.size) (ho : PStr w F v o) (hF : ∀ k, F k -> k < base) (hl : out.length + (nstrE true o).length <= 4294967296) :
  PutC Tryz.prog 44 #[dv, v] w base dv out (nstrE true o) := by
 refine calls_of_wp Tryz.func44 rfl ?_
 rw [Tryz.ntmps44]
 refine wp_act (fun a : Act => Act.get a 0 = dv /\ Act.get a 1 = v /\ a.tmps.size = 14 /\ a.defers = []) ⟨by rw [Zj _ _ _ (by simp)]; rfl, by rw [Zj _ _ _ (by simp)]; rfl, by simp, rfl⟩ ?_
 rintro a ⟨a0, a1, aN, ad⟩
 refine wp_seq (wp_region_lit (Zv rfl Zi (wpList_nil ?_)))
 obtain ⟨pa, hpa, hno⟩ : ∃ pa, v = .pointer pa /\ pa.isNone = o.isNone := by
  cases o with
  | none => exact ⟨none, ho, rfl⟩
  | some bs => obtain ⟨k, t, _, h, _⟩ := ho; exact ⟨_, h, rfl⟩
 refine wp_seq (wp_seq (wp_region_lit (Zv rfl Zm (Zv rfl (x_eqlPtr (m := pa) (by kernel_rfl) (fun _ => rfl) ?_) (wpList_nil ?_)))))
 ·simp (disch := first | omega | simp only [Zs]; omega) only [Zo, Ze, Zn, Zq, a1]
  exact hpa
 rw [hno]
 refine wp_act (fun a : Act => Act.get a 0 = dv /\ Act.get a 1 = v /\ Act.get a 6 = .bool o.isNone /\ a.tmps.size = 14 /\ a.defers = []) ⟨?_, ?_, ?_, ?_, ?_⟩ ?_
 ·simp (disch := first | omega | simp only [Zs]; omega) only [Zo, Ze, Zn, Zq, a0]
 ·simp (disch := first | omega | simp only [Zs]; omega) only [Zo, Ze, Zn, Zq, a1]
 ·simp (disch := first | omega | simp only [Zs]; omega) only [Zo, Ze, Zn, Zq]
 ·simp only [Zs]; exact aN
 ·simp only [Zd]; exact ad
 clear a0 a1 aN ad a
 rintro a ⟨a0, a1, a6, aN, ad⟩
 cases o with
 | none =>
  refine wp_cond_true (by rw [Ze]; exact a6) (wp_seq (wp_region_lit (Zv rfl Zm (wpl_call rfl (Zy (by kernel_rfl) rfl) (R := fun e w' => ∃ v, e = .returned v /\ OwnB w' base v (out ++ nulE true 2) /\ Fine dv v w w') ?_ ?_))))
  ·rw [show ∀ (a : Act) u, (#[Operand.tmp 7, .const u] : Array Operand).map a.eval = #[Act.get a 7, u] from fun a u => by simp [Ze]; rfl]
   simp (disch := first | omega | simp only [Zs]; omega) only [Zo, Ze, Zn, Zq, a0]
   have e : uvE 0 = [0] := by rw [uvE_small (by decide)]; rfl
   have h := app_uv (n := 0) (by decide) hown hb (by rw [e]; exact hl)
   rw [e] at h
   exact h.out
  rintro e w1 ⟨v1, rfl, k1, k2⟩
  refine ⟨_, rfl, Zv rfl Zi (wpList_nil (wp_ret ?_))⟩
  simp only [Exit.then, Exit.inBlock]
  refine bodyPost_ret (results_tmp rfl _ _ _) ?_ ⟨_, rfl, ?_, ?_⟩
  ·simp only [Zd]; exact ad
  ·rw [show ∀ (a : Act), a.tmps.getD 4 undef = Act.get a 4 from fun _ => rfl]
   simp (disch := first | omega | simp only [Zs]; omega) only [Zo, Ze, Zn, Zq]
   exact k1
  ·rw [show ∀ (a : Act), a.tmps.getD 4 undef = Act.get a 4 from fun _ => rfl]
   simp (disch := first | omega | simp only [Zs]; omega) only [Zo, Ze, Zn, Zq]
   exact k2
 | some bs =>
  obtain ⟨kb, tb, hk, hvp, hkb⟩ := ho
  refine wp_cond_false (by rw [Ze]; exact a6) (wp_skip ?_)
  simp only [Exit.then, Exit.inBlock]
  refine wp_seq (wp_region_lit (Zv rfl Zm (Zv rfl Zm (Zv rfl (x_nilCheck (q := ⟨kb, 0, none⟩) ?_) (Zv rfl (Zl (by kernel_rfl) (b := kb) (o := 0) (v := .string (str bs)) ?_ (by rw [Zc hkb]; rfl)) (wpl_call rfl (Zy (by kernel_rfl) rfl) (R := fun e w' => ∃ v, e = .returned v /\ OwnB w' base v (out ++ (cntE true bs.length 2 ++ bs)) /\ Fine dv v w w') ?_ ?_))))))
  ·simp (disch := first | omega | simp only [Zs]; omega) only [Zo, Ze, Zn, Zq, a1]
   exact hvp
  ·simp (disch := first | omega | simp only [Zs]; omega) only [Zo, Ze, Zn, Zq]
  ·rw [show ∀ a : Act, (#[Operand.tmp 9, .tmp 12] : Array Operand).map a.eval = #[Act.get a 9, Act.get a 12] from fun a => by simp [Ze]]
   simp (disch := first | omega | simp only [Zs]; omega) only [Zo, Ze, Zn, Zq, a0]
   exact (app_cstr hown hb hl).out
  rintro e w1 ⟨v1, rfl, k1, k2⟩
  refine ⟨_, rfl, Zv rfl Zi (wpList_nil (wp_ret ?_))⟩
  refine bodyPost_ret (results_tmp rfl _ _ _) ?_ ⟨_, rfl, ?_, ?_⟩
  ·simp only [Zd]; exact ad
  ·rw [show ∀ (a : Act), a.tmps.getD 4 undef = Act.get a 4 from fun _ => rfl]
   simp (disch := first | omega | simp only [Zs]; omega) only [Zo, Ze, Zn, Zq]
   exact k1
  ·rw [show ∀ (a : Act), a.tmps.getD 4 undef = Act.get a 4 from fun _ => rfl]
   simp (disch := first | omega | simp only [Zs]; omega) only [Zo, Ze, Zn, Zq]
   exact k2
end Go.Proofs.YthkpmmjcmldjhaaGreatDoorRR
set_option linter.unusedSimpArgs false
set_option linter.unusedVariables false
namespace Go.Proofs.YthkpmmjcmldjhaaGreatDoorRR
open Go Go.RowKit
theorem av_i64 {null : Int} {fl : Bool} : AppV Tryz.prog 51 (.int .i64) (leafE 4 null fl) := by
 intro w F base dv out v t hown hb hr hF hl
 rcases hr with ⟨_, _, hr⟩ | ⟨h, _⟩
 ·simp only [Rep] at hr
  obtain ⟨n, rfl, _, rfl⟩ := hr
  have e : leafE 4 null fl (.num n) = fixedE n (width 4) := by simp [leafE, Tr.N_num]
  rw [e] at hl ⊢
  rw [fixedE_length] at hl
  exact app_i64 hown hb hl
 ·cases h
theorem av_str {null : Int} (hn : null < 0) : AppV Tryz.prog 41 .str (leafE 8 null false) := by
 intro w F base dv out v t hown hb hr hF hl
 rcases hr with ⟨_, _, hr⟩ | ⟨h, _⟩
 ·simp only [Rep] at hr
  obtain ⟨bs, rfl, _, rfl⟩ := hr
  have e : leafE 8 null false (.oct bs) = cntE false bs.length 2 ++ bs := by simp [leafE, Tr.S_oct, Tr.Z_oct]
  rw [e] at hl ⊢
  exact app_str hown hb hl
 ·cases h
theorem av_cstr {null : Int} (hn : null < 0) : AppV Tryz.prog 40 .str (leafE 8 null true) := by
 intro w F base dv out v t hown hb hr hF hl
 rcases hr with ⟨_, _, hr⟩ | ⟨h, _⟩
 ·simp only [Rep] at hr
  obtain ⟨bs, rfl, _, rfl⟩ := hr
  have e : leafE 8 null true (.oct bs) = cntE true bs.length 2 ++ bs := by simp [leafE, Tr.S_oct, Tr.Z_oct]
  rw [e] at hl ⊢
  exact app_cstr hown hb hl
 ·cases h
theorem av_nstr {null : Int} (hn : 0 <= null) : AppV Tryz.prog 45 .pstr (leafE 8 null false) := by
 intro w F base dv out v t hown hb hr hF hl
 rcases hr with ⟨_, _, hr⟩ | ⟨h, _⟩
 ·simp only [Rep] at hr
  obtain ⟨o, ho, _, rfl⟩ := hr
  cases o with
  | none =>
   have e : leafE 8 null false (.ofOpt none) = nulE false 2 := by simp [leafE, Tr.ofOpt, Tr.Z_nul, hn]
   rw [e] at hl ⊢
   exact app_nstr (o := none) hown hb ho hF hl
  | some bs =>
   have e : leafE 8 null false (.ofOpt (some bs)) = cntE false bs.length 2 ++ bs := by simp [leafE, Tr.ofOpt, Tr.S_oct, Tr.Z_oct]
   rw [e] at hl ⊢
   exact app_nstr (o := some bs) hown hb ho hF hl
 ·cases h
theorem av_cnstr {null : Int} (hn : 0 <= null) : AppV Tryz.prog 44 .pstr (leafE 8 null true) := by
 intro w F base dv out v t hown hb hr hF hl
 rcases hr with ⟨_, _, hr⟩ | ⟨h, _⟩
 ·simp only [Rep] at hr
  obtain ⟨o, ho, _, rfl⟩ := hr
  cases o with
  | none =>
   have e : leafE 8 null true (.ofOpt none) = nulE true 2 := by simp [leafE, Tr.ofOpt, Tr.Z_nul, hn]
   rw [e] at hl ⊢
   exact app_cnstr (o := none) hown hb ho hF hl
  | some bs =>
   have e : leafE 8 null true (.ofOpt (some bs)) = cntE true bs.length 2 ++ bs := by simp [leafE, Tr.ofOpt, Tr.S_oct, Tr.Z_oct]
   rw [e] at hl ⊢
   exact app_cnstr (o := some bs) hown hb ho hF hl
 ·cases h
theorem ct_alen : CntC Tryz.prog 43 false := by
 intro w base dv out n hown hb hl
 exact app_alen hown hb (by simpa [cntE, fixedE_length] using hl)
theorem ct_calen : CntC Tryz.prog 42 true := by
 intro w base dv out n hown hb hl
 exact app_calen hown hb hl
end Go.Proofs.YthkpmmjcmldjhaaGreatDoorRR
