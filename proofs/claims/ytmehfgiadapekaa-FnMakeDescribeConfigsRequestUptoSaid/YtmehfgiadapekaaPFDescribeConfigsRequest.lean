/-
  A value that code copies into a slot more ahead of writing it.
  DescribeConfigsRequest: AppendTo.
  DescribeConfigsRequest: its fields are set.
-/
import Derived.Test.YtmehfgiadapekaaPZd
import Derived.Test.YtmehfgiadapekaaPZx
set_option linter.unusedSimpArgs false
set_option linter.unusedVariables false
namespace Go.Proofs.Ytmehfgiadapekaa
open Go Go.RowKit
section
variable {P : Program} {Γ : Wl} {ok : OkV} {c : Code} {id t1 tv tv' : Nat} {y1 y2 : TypeId} {s1 s2 : String} {e1 e2 : Array Edge} {ty : Ty} {E : Int -> Bool -> Tr -> List UInt8}
theorem emit_copy (h : Emit P Γ ok c (preV tv' ty E)) (hs : (Γ.free t1 && Γ.free tv') = true) :
  Emit P Γ ok (.seq (.region id #[⟨some t1, .move (.tmp tv), y1, s1, e1, none⟩, ⟨some tv', .assign (.tmp t1), y2, s2, e2, none⟩] false) c) (preV tv ty E) := by
 rintro x bs out a w ho hA ⟨F, t, hr, hF, rfl⟩ hl
 simp only [Bool.and_eq_true] at hs
 obtain ⟨f1, f2⟩ := hs
 refine wp_seq (wp_region_lit (Zv rfl Zm (Zv rfl Zi (wpList_nil ?_))))
 refine wp_mono (h x _ out _ w ho ((hA.put f1 _).put f2 _) ⟨F, t, ?_, hF, rfl⟩ hl) ?_
 ·rw [Zq (by simp only [Zs]; exact hA.lt f2), Ze, Zq (hA.lt f1), Ze]
  exact hr
 rintro e a2 w2 ⟨rfl, g1, g2, g3⟩
 refine ⟨rfl, g1, ?_, g3⟩
 refine SameBut.trans ?_ (g2.mono fun t ht => by simp only [W, writes, List.mem_append] at *; exact .inr ht)
 exact ((SameBut.refl a).put (by simp [W, writes]) _).put (by simp [W, writes]) _
end
/-- a function that puts a count behind octets, or that there is none -/
def CntN (P : Program) (f : FuncId) (fl : Bool) : Prop := ∀ w base dv out (n : Nat) (b : Bool), OwnB w base dv out -> base <= w.heap.size -> out.length + (if b = true then nulE fl 4 else cntE fl n 4).length <= 4294967296 -> PutC P f #[dv, .int .i64 n, .bool b] w base dv out (if b = true then nulE fl 4 else cntE fl n 4)
section
variable {P : Program} {Γ : Wl} {ok : OkV} {id t1 t2 t3 t4 t5 t6 tv : Nat} {y1 y2 y3 y4 y5 y6 y7 yb : TypeId} {s1 s2 s3 s4 s5 s6 s7 : String} {e1 e2 e3 e4 e5 e6 e7 : Array Edge} {ts ts' : Array TypeId}
theorem emit_cntN {f LT : Nat} {fl : Bool} (hc : CntN P f fl) (hb : bodied P f = true) (hI : (elemSize P LT).isSome = true) (hts : ts[0]? = some LT) (hsl : isSlice P LT = true) (hs : (Γ.ok && Γ.free t1 && Γ.free t2 && Γ.free t3 && Γ.free t4 && Γ.free t5 && Γ.free t6 && decide ([t1, t2, t3, t4, t5] : List Nat).Nodup && tv != t1 && tv != t2 && tv != t3) = true) (ho : ∀ v l, ok v l -> l = fl) :
  Emit P Γ ok (.region id #[⟨some t1, .move (.tmp 1), y1, s1, e1, none⟩, ⟨some t2, .move (.tmp tv), y2, s2, e2, none⟩, ⟨some t3, .call ⟨.builtin .len, #[.tmp t2], ts⟩, y3, s3, e3, none⟩, ⟨some t4, .move (.tmp tv), y4, s4, e4, none⟩, ⟨some t5, .binOp .eql LT (.tmp t4) (.const (.slice none 0 0)) yb, y5, s5, e5, none⟩, ⟨some t6, .call ⟨.value (.func f), #[.tmp t1, .tmp t3, .tmp t5], ts'⟩, y6, s6, e6, none⟩, ⟨some 1, .assign (.tmp t6), y7, s7, e7, none⟩] false) (preC tv true) := by
 rintro x bs out a w hok' hA ⟨ao, n, cap, hv, hn, rfl⟩ hl
 simp only [Bool.and_eq_true, bne_iff_ne, decide_eq_true_eq] at hs
 obtain ⟨⟨⟨⟨⟨⟨⟨⟨⟨⟨hok, f1⟩, f2⟩, f3⟩, f4⟩, f5⟩, f6⟩, hnd⟩, nv1⟩, nv2⟩, nv3⟩ := hs
 simp only [List.nodup_cons, List.mem_cons, List.not_mem_nil, or_false, not_or, not_false_eq_true, List.nodup_nil, and_true] at hnd
 obtain ⟨⟨n12, n13, n14, n15⟩, ⟨n23, n24, n25⟩, ⟨n34, n35⟩, n45⟩ := hnd
 have e := ho _ _ hok'
 simp only [Bool.true_and, e] at hl ⊢
 refine wp_region_lit (Zv rfl Zm (Zv rfl Zm (Zv rfl (x_len (n := n) (cap := cap) (ao := ao) hI hts ?_) (Zv rfl Zm (Zv rfl (x_eqlSlice (m := ao) (n := n) (c := cap) hsl (fun _ => rfl) ?_) (wpl_call rfl (Zy hb rfl) (R := fun e w' => ∃ z, e = .returned z /\ OwnB w' x.base z (out ++ if ao.isNone = true then nulE fl 4 else cntE fl n 4) /\ Fine (Act.get a 1) z w w') ?_ ?_))))))
 ·rw [Ze, Zq (by rw [Zs]; exact hA.lt f2), Ze, Zn (Ne.symm nv1), hv]
 ·rw [Ze, Zq (by simp only [Zs]; exact hA.lt f4), Ze, Zn (Ne.symm nv3), Zn (Ne.symm nv2), Zn (Ne.symm nv1), hv]
 ·rw [show ∀ a : Act, (#[Operand.tmp t1, .tmp t3, .tmp t5] : Array Operand).map a.eval = #[Act.get a t1, Act.get a t3, Act.get a t5] from fun a => by simp [Ze]]
  rw [Zq (by simp only [Zs]; exact hA.lt f5), Zn (Ne.symm n15), Zn (Ne.symm n14), Zn (Ne.symm n13), Zn (Ne.symm n12), Zq (hA.lt f1), Zn (Ne.symm n35), Zn (Ne.symm n34), Zq (by simp only [Zs]; exact hA.lt f3), Ze]
  exact (hc w x.base _ out n _ hA.dst hA.base hl).out
 rintro e w' ⟨v', rfl, k1, k2⟩
 refine ⟨_, rfl, Zv rfl Zi (wpList_nil ⟨rfl, ?_, ?_, k2.low hA.dst⟩)⟩
 ·refine ((((((hA.put f1 _).put f2 _).put f3 _).put f4 _).put f5 _).put f6 _).setD hok (w' := w') ?_ (by have := k2.size; have := hA.base; omega)
  rw [Ze, Zq (by simp only [Zs]; exact hA.lt f6)]
  exact k1
 ·exact (((((((SameBut.refl a).put (by simp [W, writes]) _).put (by simp [W, writes]) _).put (by simp [W, writes]) _).put (by simp [W, writes]) _).put (by simp [W, writes]) _).put (by simp [W, writes]) _).put (by simp [W, writes]) _
end
theorem app_nalen {w : World} {base : Nat} {dv : Value} {out : List UInt8} {n : Nat} {b : Bool} (hown : OwnB w base dv out) (hb : base <= w.heap.size) (hl : out.length + (if b = true then nulE false 4 else cntE false n 4).length <= 4294967296) : PutC Try.prog 169 #[dv, .int .i64 (n : Nat), .bool b] w base dv out (if b = true then nulE false 4 else cntE false n 4) := by
 refine calls_of_wp Try.func169 rfl ?_
 rw [Try.ntmps169]
 refine wp_act (fun a : Act => Act.get a 0 = dv /\ Act.get a 1 = .int .i64 (n : Nat) /\ Act.get a 2 = .bool b /\ a.tmps.size = 14 /\ a.defers = []) ⟨by rw [Zj _ _ _ (by simp)]; rfl, by rw [Zj _ _ _ (by simp)]; rfl, by rw [Zj _ _ _ (by simp)]; rfl, by simp, rfl⟩ ?_
 rintro a ⟨a0, a1, a2, aN, ad⟩
 refine wp_seq (wp_region_lit (Zv rfl Zi (wpList_nil ?_)))
 refine wp_seq (wp_seq (wp_region_lit (Zv rfl Zm (wpList_nil ?_))))
 refine wp_act (fun a : Act => Act.get a 0 = dv /\ Act.get a 1 = .int .i64 (n : Nat) /\ Act.get a 7 = .bool b /\ a.tmps.size = 14 /\ a.defers = []) ⟨?_, ?_, ?_, ?_, ?_⟩ ?_
 ·simp (disch := first | omega | simp only [Zs]; omega) only [Zo, Ze, Zn, Zq, a0]
 ·simp (disch := first | omega | simp only [Zs]; omega) only [Zo, Ze, Zn, Zq, a1]
 ·simp (disch := first | omega | simp only [Zs]; omega) only [Zo, Ze, Zn, Zq, a2]
 ·simp only [Zs]; exact aN
 ·simp only [Zd]; exact ad
 clear a0 a1 a2 aN ad a
 rintro a ⟨a0, a1, a7, aN, ad⟩
 cases b with
 | true =>
  rw [if_pos rfl] at hl ⊢
  refine wp_cond_true (by rw [Ze]; exact a7) (wp_seq (wp_region_lit (Zv rfl Zm (wpl_call rfl (Zy (by kernel_rfl) rfl) (R := fun e w' => ∃ v, e = .returned v /\ OwnB w' base v (out ++ nulE false 4) /\ Fine dv v w w') ?_ ?_))))
  ·rw [show ∀ (a : Act) u, (#[Operand.tmp 8, .const u] : Array Operand).map a.eval = #[Act.get a 8, u] from fun a u => by simp [Ze]; rfl]
   simp (disch := first | omega | simp only [Zs]; omega) only [Zo, Ze, Zn, Zq, a0]
   exact (app_i32 (n := -1) hown hb (by simpa [nulE, fixedE_length] using hl)).out
  rintro e w1 ⟨v1, rfl, k1, k2⟩
  refine ⟨_, rfl, Zv rfl Zi (wpList_nil (wp_ret ?_))⟩
  simp only [Exit.then, Exit.inBlock]
  refine bodyPost_ret (results_tmp rfl _ _ _) ?_ ⟨_, rfl, ?_, ?_⟩
  ·simp only [Zd]; exact ad
  ·rw [show ∀ (a : Act), a.tmps.getD 6 undef = Act.get a 6 from fun _ => rfl]
   simp (disch := first | omega | simp only [Zs]; omega) only [Zo, Ze, Zn, Zq]
   exact k1
  ·rw [show ∀ (a : Act), a.tmps.getD 6 undef = Act.get a 6 from fun _ => rfl]
   simp (disch := first | omega | simp only [Zs]; omega) only [Zo, Ze, Zn, Zq]
   exact k2
 | false =>
  rw [if_neg (by decide)] at hl ⊢
  refine wp_cond_false (by rw [Ze]; exact a7) (wp_skip ?_)
  simp only [Exit.then, Exit.inBlock]
  refine wp_seq (wp_region_lit (Zv rfl Zm (Zv rfl Zm (Zv rfl (x_convInt (n := (n : Nat)) (k := .i64) (k' := .i32) (by kernel_rfl) (by kernel_rfl) ?_) (wpl_call rfl (Zy (by kernel_rfl) rfl) (R := fun e w' => ∃ v, e = .returned v /\ OwnB w' base v (out ++ (cntE false n 4)) /\ Fine dv v w w') ?_ ?_)))))
  ·simp (disch := first | omega | simp only [Zs]; omega) only [Zo, Ze, Zn, Zq, a0, a1]
  ·rw [show ∀ a : Act, (#[Operand.tmp 10, .tmp 12] : Array Operand).map a.eval = #[Act.get a 10, Act.get a 12] from fun a => by simp [Ze]]
   simp (disch := first | omega | simp only [Zs]; omega) only [Zo, Ze, Zn, Zq, a0, a1]
   have h := app_i32 (n := IntKind.i32.wrap n) hown hb (by simpa [cntE, fixedE_length] using hl)
   rw [fixedE_i32] at h
   exact h.out
  rintro e w1 ⟨v1, rfl, k1, k2⟩
  refine ⟨_, rfl, Zv rfl Zi (wpList_nil (wp_ret ?_))⟩
  try simp only [Exit.then, Exit.inBlock]
  refine bodyPost_ret (results_tmp rfl _ _ _) ?_ ⟨_, rfl, ?_, ?_⟩
  ·simp only [Zd]; exact ad
  ·rw [show ∀ (a : Act), a.tmps.getD 6 undef = Act.get a 6 from fun _ => rfl]
   simp (disch := first | omega | simp only [Zs]; omega) only [Zo, Ze, Zn, Zq]
   exact k1
  ·rw [show ∀ (a : Act), a.tmps.getD 6 undef = Act.get a 6 from fun _ => rfl]
   simp (disch := first | omega | simp only [Zs]; omega) only [Zo, Ze, Zn, Zq]
   exact k2
theorem ct_nalen : CntN Try.prog 169 false := fun w base dv out n b hown hb hl => app_nalen hown hb hl
theorem app_cnalen {w : World} {base : Nat} {dv : Value} {out : List UInt8} {n : Nat} {b : Bool} (hown : OwnB w base dv out) (hb : base <= w.heap.size) (hl : out.length + (if b = true then nulE true 4 else cntE true n 4).length <= 4294967296) : PutC Try.prog 168 #[dv, .int .i64 (n : Nat), .bool b] w base dv out (if b = true then nulE true 4 else cntE true n 4) := by
 refine calls_of_wp Try.func168 rfl ?_
 rw [Try.ntmps168]
 refine wp_act (fun a : Act => Act.get a 0 = dv /\ Act.get a 1 = .int .i64 (n : Nat) /\ Act.get a 2 = .bool b /\ a.tmps.size = 15 /\ a.defers = []) ⟨by rw [Zj _ _ _ (by simp)]; rfl, by rw [Zj _ _ _ (by simp)]; rfl, by rw [Zj _ _ _ (by simp)]; rfl, by simp, rfl⟩ ?_
 rintro a ⟨a0, a1, a2, aN, ad⟩
 refine wp_seq (wp_region_lit (Zv rfl Zi (wpList_nil ?_)))
 refine wp_seq (wp_seq (wp_region_lit (Zv rfl Zm (wpList_nil ?_))))
 refine wp_act (fun a : Act => Act.get a 0 = dv /\ Act.get a 1 = .int .i64 (n : Nat) /\ Act.get a 7 = .bool b /\ a.tmps.size = 15 /\ a.defers = []) ⟨?_, ?_, ?_, ?_, ?_⟩ ?_
 ·simp (disch := first | omega | simp only [Zs]; omega) only [Zo, Ze, Zn, Zq, a0]
 ·simp (disch := first | omega | simp only [Zs]; omega) only [Zo, Ze, Zn, Zq, a1]
 ·simp (disch := first | omega | simp only [Zs]; omega) only [Zo, Ze, Zn, Zq, a2]
 ·simp only [Zs]; exact aN
 ·simp only [Zd]; exact ad
 clear a0 a1 a2 aN ad a
 rintro a ⟨a0, a1, a7, aN, ad⟩
 cases b with
 | true =>
  rw [if_pos rfl] at hl ⊢
  refine wp_cond_true (by rw [Ze]; exact a7) (wp_seq (wp_region_lit (Zv rfl Zm (wpl_call rfl (Zy (by kernel_rfl) rfl) (R := fun e w' => ∃ v, e = .returned v /\ OwnB w' base v (out ++ nulE true 4) /\ Fine dv v w w') ?_ ?_))))
  ·rw [show ∀ (a : Act) u, (#[Operand.tmp 8, .const u] : Array Operand).map a.eval = #[Act.get a 8, u] from fun a u => by simp [Ze]; rfl]
   simp (disch := first | omega | simp only [Zs]; omega) only [Zo, Ze, Zn, Zq, a0]
   have e0 : uvE 0 = nulE true 4 := by rw [uvE]; simp [nulE]
   have h := app_uv (n := 0) (by omega) hown hb (by rw [e0]; exact hl)
   rw [e0] at h
   exact h.out
  rintro e w1 ⟨v1, rfl, k1, k2⟩
  refine ⟨_, rfl, Zv rfl Zi (wpList_nil (wp_ret ?_))⟩
  simp only [Exit.then, Exit.inBlock]
  refine bodyPost_ret (results_tmp rfl _ _ _) ?_ ⟨_, rfl, ?_, ?_⟩
  ·simp only [Zd]; exact ad
  ·rw [show ∀ (a : Act), a.tmps.getD 6 undef = Act.get a 6 from fun _ => rfl]
   simp (disch := first | omega | simp only [Zs]; omega) only [Zo, Ze, Zn, Zq]
   exact k1
  ·rw [show ∀ (a : Act), a.tmps.getD 6 undef = Act.get a 6 from fun _ => rfl]
   simp (disch := first | omega | simp only [Zs]; omega) only [Zo, Ze, Zn, Zq]
   exact k2
 | false =>
  rw [if_neg (by decide)] at hl ⊢
  refine wp_cond_false (by rw [Ze]; exact a7) (wp_skip ?_)
  simp only [Exit.then, Exit.inBlock]
  refine wp_seq (wp_region_lit (Zv rfl Zm (Zv rfl Zm (Zv rfl (x_convInt (n := (n : Nat)) (k := .i64) (k' := .u32) (by kernel_rfl) (by kernel_rfl) ?_) (Zv rfl (x_add (k := .u32) (m := 1) (n := (IntKind.u32.wrap ((n : Nat)))) rfl ?_) (wpl_call rfl (Zy (by kernel_rfl) rfl) (R := fun e w' => ∃ v, e = .returned v /\ OwnB w' base v (out ++ (cntE true n 4)) /\ Fine dv v w w') ?_ ?_))))))
  ·simp (disch := first | omega | simp only [Zs]; omega) only [Zo, Ze, Zn, Zq, a0, a1]
  ·simp (disch := first | omega | simp only [Zs]; omega) only [Zo, Ze, Zn, Zq, a0, a1]
  ·rw [show ∀ a : Act, (#[Operand.tmp 10, .tmp 13] : Array Operand).map a.eval = #[Act.get a 10, Act.get a 13] from fun a => by simp [Ze]]
   simp (disch := first | omega | simp only [Zs]; omega) only [Zo, Ze, Zn, Zq, a0, a1]
   have e : IntKind.u32.wrap (1 + IntKind.u32.wrap (n : Int)) = ((n + 1) % 4294967296 : Nat) := by simp only [IntKind.wrap, IntKind.bits, IntKind.signed]; simp; omega
   rw [e]
   exact (app_uv (n := (n + 1) % 4294967296) (by omega) hown hb hl).out
  rintro e w1 ⟨v1, rfl, k1, k2⟩
  refine ⟨_, rfl, Zv rfl Zi (wpList_nil (wp_ret ?_))⟩
  try simp only [Exit.then, Exit.inBlock]
  refine bodyPost_ret (results_tmp rfl _ _ _) ?_ ⟨_, rfl, ?_, ?_⟩
  ·simp only [Zd]; exact ad
  ·rw [show ∀ (a : Act), a.tmps.getD 6 undef = Act.get a 6 from fun _ => rfl]
   simp (disch := first | omega | simp only [Zs]; omega) only [Zo, Ze, Zn, Zq]
   exact k1
  ·rw [show ∀ (a : Act), a.tmps.getD 6 undef = Act.get a 6 from fun _ => rfl]
   simp (disch := first | omega | simp only [Zs]; omega) only [Zo, Ze, Zn, Zq]
   exact k2
theorem ct_cnalen : CntN Try.prog 168 true := fun w base dv out n b hown hb hl => app_cnalen hown hb hl
end Go.Proofs.Ytmehfgiadapekaa
set_option linter.unusedSimpArgs false
set_option linter.unusedVariables false
namespace Go.Proofs.Ytmehfgiadapekaa
open Go Go.RowKit
abbrev Zg : List FD := [.mk 11 0 (-1) (-1) (-1) 0 10 [.mk 1 0 (-1) (-1) (-1) 0 0 [], .mk 8 0 (-1) (-1) (-1) 0 0 [], .mk 11 0 (-1) 0 (-1) 0 8 []], .mk 0 1 (-1) (-1) (-1) 0 0 [], .mk 0 3 (-1) (-1) (-1) 0 0 []]
abbrev Zf : Int -> Bool := fun ver => decide ((4 : Int) <= ver)
abbrev Zk : OkV := fun ver fl => 0 <= ver /\ ver <= 4 /\ fl = Zf ver
abbrev aDescribeConfigsRequest : St := ⟨0, .cons 0 (.int .i16) (.cons 1 (.list (.struct (.cons 0 (.int .i8) (.cons 1 .str (.cons 2 (.list .str 1) .nil))) (some 3) 4) 4) (.cons 2 .bool (.cons 3 .bool .nil))), some 4, 5⟩
abbrev aDescribeConfigsRequest_1 : St := ⟨9, .cons 0 (.int .i8) (.cons 1 .str (.cons 2 (.list .str 1) .nil)), some 3, 4⟩
set_option maxRecDepth 100000 in
theorem app_DescribeConfigsRequest : AppToC Try.prog 95 aDescribeConfigsRequest (fun ver => decide ((4 : Int) <= ver)) Zk Zg := by
 refine app_top (m := 18) (N := 148) Try.func95 rfl rfl (by kernel_rfl) (by kernel_rfl) rfl rfl (by decide) (by decide) rfl ?_
 refine emitw_fields (σ := aDescribeConfigsRequest) (i := 1) rfl ?_ ?_ (by rfl)
 ·refine emit_had (σ := aDescribeConfigsRequest) (i := 1) (E := listE false (structW ([.mk 1 0 (-1) (-1) (-1) 0 0 [], .mk 8 0 (-1) (-1) (-1) 0 0 [], .mk 11 0 (-1) 0 (-1) 0 8 []]))) ?_ (by intro v l h; simp [Zk, Zf] at h; exact hadW_of (by decide) (by omega) (by omega)) (fun v l t _ => by simp [encW, listE] <;> rfl)
  refine emit_leaf (σ := aDescribeConfigsRequest) (i := 1) (o := 1) (ty := .list (.struct (.cons 0 (.int .i8) (.cons 1 .str (.cons 2 (.list .str 1) .nil))) (some 3) 4) 4) ?_ (by rfl) (by kernel_rfl) (by kernel_rfl) rfl rfl
  refine emit_list ?_ ?_ (by rfl)
  ·refine emit_cond (rs := [_]) (tstw_flex (by rfl)) ?_ ?_ preC_stable (by rfl)
   ·refine emit_cnt ct_calen (by kernel_rfl) (by kernel_rfl) rfl (by rfl) (fun v l h => h.2)
   ·refine emit_cnt ct_alen (by kernel_rfl) (by kernel_rfl) rfl (by rfl) (fun v l h => h.2)
  ·refine emit_loop ?_ (by kernel_rfl) rfl (by rfl)
   refine emit_els (σe := aDescribeConfigsRequest_1) ?_ (by kernel_rfl) rfl (by rfl) (by rfl)
   refine emit_fields (σ := aDescribeConfigsRequest_1) (i := 0) rfl ?_ ?_ (by rfl)
   ·refine emit_had (σ := aDescribeConfigsRequest_1) (i := 0) (E := fun _ fl x => leafE 1 (-1) fl x) ?_ (by intro v l h; simp [Zk, Zf] at h; exact hadW_of (by decide) (by omega) (by omega)) (fun v l t _ => by simp [encW])
    refine emit_leaf (σ := aDescribeConfigsRequest_1) (i := 0) (o := 0) (ty := .int .i8) ?_ (by rfl) (by kernel_rfl) (by kernel_rfl) rfl rfl
    refine emit_copy ?_ (by rfl)
    refine emit_call (av_i8 (null := (-1)) (fl := true)) (by kernel_rfl) (by rfl) (fun v l t h => by first | rfl | (obtain ⟨_, h⟩ := h; have h : l = true := h; subst h; rfl) | (obtain ⟨_, h⟩ := h; have h : l = false := h; subst h; rfl))
   ·refine emit_fields (σ := aDescribeConfigsRequest_1) (i := 1) rfl ?_ ?_ (by rfl)
    ·refine emit_had (σ := aDescribeConfigsRequest_1) (i := 1) (E := fun _ fl x => leafE 8 (-1) fl x) ?_ (by intro v l h; simp [Zk, Zf] at h; exact hadW_of (by decide) (by omega) (by omega)) (fun v l t _ => by simp [encW])
     refine emit_leaf (σ := aDescribeConfigsRequest_1) (i := 1) (o := 1) (ty := .str) ?_ (by rfl) (by kernel_rfl) (by kernel_rfl) rfl rfl
     refine emit_cond (rs := [_]) (tstw_flex (by rfl)) ?_ ?_ preV_stable (by rfl)
     ·refine emit_call (av_cstr (null := (-1)) (by decide)) (by kernel_rfl) (by rfl) (fun v l t h => by first | rfl | (obtain ⟨_, h⟩ := h; have h : l = true := h; subst h; rfl) | (obtain ⟨_, h⟩ := h; have h : l = false := h; subst h; rfl))
     ·refine emit_call (av_str (null := (-1)) (by decide)) (by kernel_rfl) (by rfl) (fun v l t h => by first | rfl | (obtain ⟨_, h⟩ := h; have h : l = true := h; subst h; rfl) | (obtain ⟨_, h⟩ := h; have h : l = false := h; subst h; rfl))
    ·refine emit_fields (σ := aDescribeConfigsRequest_1) (i := 2) rfl ?_ ?_ (by rfl)
     ·refine emit_had (σ := aDescribeConfigsRequest_1) (i := 2) (E := listE true (fun _ fl y => leafE 8 (-1) fl y)) ?_ (by intro v l h; simp [Zk, Zf] at h; exact hadW_of (by decide) (by omega) (by omega)) (fun v l t _ => by simp [encW, listE] <;> rfl)
      refine emit_leaf (σ := aDescribeConfigsRequest_1) (i := 2) (o := 2) (ty := .list .str 1) ?_ (by rfl) (by kernel_rfl) (by kernel_rfl) rfl rfl
      refine emit_list ?_ ?_ (by rfl)
      ·refine emit_cond (rs := [_]) (tstw_flex (by rfl)) ?_ ?_ preC_stable (by rfl)
       ·refine emit_cntN ct_cnalen (by kernel_rfl) (by kernel_rfl) rfl (by kernel_rfl) (by rfl) (fun v l h => h.2)
       ·refine emit_cntN ct_nalen (by kernel_rfl) (by kernel_rfl) rfl (by kernel_rfl) (by rfl) (fun v l h => h.2)
      ·refine emit_loop ?_ (by kernel_rfl) rfl (by rfl)
       refine emit_el (e := .str) ?_ rfl (by kernel_rfl) (by kernel_rfl) (by rfl)
       refine emit_cond (rs := [_]) (tstw_flex (by rfl)) ?_ ?_ preV_stable (by rfl)
       ·refine emit_call (av_cstr (null := (-1)) (by decide)) (by kernel_rfl) (by rfl) (fun v l t h => by first | rfl | (obtain ⟨_, h⟩ := h; have h : l = true := h; subst h; rfl) | (obtain ⟨_, h⟩ := h; have h : l = false := h; subst h; rfl))
       ·refine emit_call (av_str (null := (-1)) (by decide)) (by kernel_rfl) (by rfl) (fun v l t h => by first | rfl | (obtain ⟨_, h⟩ := h; have h : l = true := h; subst h; rfl) | (obtain ⟨_, h⟩ := h; have h : l = false := h; subst h; rfl))
     ·refine emit_tags ?_ ?_ (by rfl) (by rfl) (by rfl)
      ·refine emit_tagn (σ := aDescribeConfigsRequest_1) (o := 3) ?_ ?_ ?_ ?_ ?_ ?_ ?_ <;> first | rfl | decide | kernel_rfl
      ·refine emit_tage (σ := aDescribeConfigsRequest_1) (o := 3) ?_ ?_ ?_ ?_ ?_ <;> first | rfl | decide | kernel_rfl
 ·refine emitw_fields (σ := aDescribeConfigsRequest) (i := 2) rfl ?_ ?_ (by rfl)
  ·refine emit_cond (rs := [0]) (tstw_geq (by rfl)) ?_ ?_ (preH_stable (σ := aDescribeConfigsRequest) (i := 2)) (by rfl)
   ·refine emit_had (σ := aDescribeConfigsRequest) (i := 2) (E := fun _ fl x => leafE 0 (-1) fl x) ?_ (by intro v l h; simp [Zk, Zf] at h; exact hadW_of (by decide) (by omega) (by omega)) (fun v l t _ => by simp [encW])
    refine emit_leaf (σ := aDescribeConfigsRequest) (i := 2) (o := 2) (ty := .bool) ?_ (by rfl) (by kernel_rfl) (by kernel_rfl) rfl rfl
    refine emit_call (av_bool (null := (-1)) (fl := true)) (by kernel_rfl) (by rfl) (fun v l t h => by first | rfl | (obtain ⟨_, h⟩ := h; have h : l = true := h; subst h; rfl) | (obtain ⟨_, h⟩ := h; have h : l = false := h; subst h; rfl))
   ·exact emit_lacks (by intro v l h; simp [Zk, Zf] at h; exact hadW_not (by omega))
  ·refine emitw_fields (σ := aDescribeConfigsRequest) (i := 3) rfl ?_ ?_ (by rfl)
   ·refine emit_cond (rs := [0]) (tstw_geq (by rfl)) ?_ ?_ (preH_stable (σ := aDescribeConfigsRequest) (i := 3)) (by rfl)
    ·refine emit_had (σ := aDescribeConfigsRequest) (i := 3) (E := fun _ fl x => leafE 0 (-1) fl x) ?_ (by intro v l h; simp [Zk, Zf] at h; exact hadW_of (by decide) (by omega) (by omega)) (fun v l t _ => by simp [encW])
     refine emit_leaf (σ := aDescribeConfigsRequest) (i := 3) (o := 3) (ty := .bool) ?_ (by rfl) (by kernel_rfl) (by kernel_rfl) rfl rfl
     refine emit_call (av_bool (null := (-1)) (fl := true)) (by kernel_rfl) (by rfl) (fun v l t h => by first | rfl | (obtain ⟨_, h⟩ := h; have h : l = true := h; subst h; rfl) | (obtain ⟨_, h⟩ := h; have h : l = false := h; subst h; rfl))
    ·exact emit_lacks (by intro v l h; simp [Zk, Zf] at h; exact hadW_not (by omega))
   ·refine emitw_tags ?_ (emitw_end (by rfl))
    refine emit_tags ?_ ?_ (by rfl) (by rfl) (by rfl)
    ·refine emit_tagn (σ := aDescribeConfigsRequest) (o := 4) ?_ ?_ ?_ ?_ ?_ ?_ ?_ <;> first | rfl | decide | kernel_rfl
    ·refine emit_tage (σ := aDescribeConfigsRequest) (o := 4) ?_ ?_ ?_ ?_ ?_ <;> first | rfl | decide | kernel_rfl
end Go.Proofs.Ytmehfgiadapekaa
set_option linter.unusedSimpArgs false
set_option linter.unusedVariables false
namespace Go.Proofs.Ytmehfgiadapekaa
open Go Go.RowKit
abbrev gDescribeConfigsRequestResource : St := ⟨0, .cons 0 (.int .i8) (.cons 1 .str (.cons 2 (.list .str 1) .nil)), none, 4⟩
abbrev ft_DescribeConfigsRequestResource : List FD := [.mk 1 0 (-1) (-1) (-1) 0 0 [], .mk 8 0 (-1) (-1) (-1) 0 0 [], .mk 11 0 (-1) 0 (-1) 0 8 []]
set_option maxRecDepth 100000 in
theorem mk_DescribeConfigsRequestResource : ValC Try.prog 166 (.struct gDescribeConfigsRequestResource.lay (some 3) 4) (fun y => .part (fillsW ft_DescribeConfigsRequestResource 0 y) y.U) (fun y => goksW ft_DescribeConfigsRequestResource 0 y /\ UOk y.U) := by
 refine make_top (z := .agg #[.int .i8 0, .string (str []), .slice none 0 0, .map none]) (T := 197) Try.func166 rfl rfl rfl (by decide) rfl (by decide) (by kernel_rfl) rfl (fun w F => ?_) rfl (by kernel_rfl) ?_
 ·exact Lay.zero_rep gDescribeConfigsRequestResource.lay _ (by repeat' (first | rfl | trivial | apply And.intro))
 ·refine rest_cons ?_ ?_
  ·exact fst_mono (fst_make (mids := [_, _]) (i := 0) (j := 0) (o := 0) (k := 0) (T := 197) (ty := .int .i8) iat_C (by kernel_rfl) (by kernel_rfl) (val_num (kd := .i8) (by kernel_rfl) (by kernel_rfl) (by kernel_rfl) (by kernel_rfl)) rfl (by kernel_rfl) (by kernel_rfl) (by kernel_rfl) (by kernel_rfl) (by kernel_rfl)) rfl (fun _ _ => fk_i8) (fun _ h => trivial)
  refine rest_cons ?_ ?_
  ·exact fst_mono (fst_make (mids := [_, _]) (i := 1) (j := 1) (o := 1) (k := 1) (T := 197) (ty := .str) iat_C (by kernel_rfl) (by kernel_rfl) (val_text (eb := 5) (by kernel_rfl) (by kernel_rfl) (by kernel_rfl)) rfl (by kernel_rfl) (by kernel_rfl) (by kernel_rfl) (by kernel_rfl) (by kernel_rfl)) rfl (fun _ _ => fk_str (by decide)) (fun _ h => fo_text h)
  refine rest_cons ?_ ?_
  ·exact fst_mono (fst_list (i := 2) (j := 2) (o := 2) (e := 9) (sz := 1) (ety := .str) iat_C (by kernel_rfl) (by kernel_rfl) (by kernel_rfl) (by kernel_rfl) (by kernel_rfl) rfl (by kernel_rfl) rfl (mk_make (T := 197) (k := 2) iat_C (by kernel_rfl) (by kernel_rfl) (by kernel_rfl) (by kernel_rfl) rfl (by kernel_rfl) (by kernel_rfl) (by kernel_rfl) rfl (by kernel_rfl) (by kernel_rfl) (by kernel_rfl)) (app_make_text (T := 197) (k := 2) (eb := 5) (by kernel_rfl) (by kernel_rfl) (by kernel_rfl) (by kernel_rfl) (by kernel_rfl) (by kernel_rfl) (by kernel_rfl) (by kernel_rfl) (by kernel_rfl)) (by kernel_rfl) rfl rfl (by kernel_rfl) (by kernel_rfl)) (by simp [zeroW]) (fun _ _ => fk_leafs (by decide) fl_text) (fun _ h => fo_texts h)
  refine rest_ret (T := 197) rfl ?_ rfl (by kernel_rfl) (by kernel_rfl) (by kernel_rfl) (by kernel_rfl) rfl (by kernel_rfl)
  exact tags_set rfl (by kernel_rfl) (by kernel_rfl) (by kernel_rfl) rfl (by kernel_rfl) (by kernel_rfl) (by kernel_rfl) (tag_make (T := 197) (kt := 3) (TG := 64) setTag_spec (by kernel_rfl) (by kernel_rfl) (by kernel_rfl) (by kernel_rfl) (by kernel_rfl) (by kernel_rfl) (by kernel_rfl) (by kernel_rfl)) (by kernel_rfl)
abbrev gDescribeConfigsRequest : St := ⟨0, .cons 0 (.int .i16) (.cons 1 (.list (.struct (.cons 0 (.int .i8) (.cons 1 .str (.cons 2 (.list .str 1) .nil))) (some 3) 4) 4) (.cons 2 .bool (.cons 3 .bool .nil))), none, 5⟩
set_option maxRecDepth 100000 in
theorem fill_DescribeConfigsRequest : FillC Try.prog 94 gDescribeConfigsRequest 4 Zg := by
 refine fill_top Try.func94 rfl rfl rfl (by decide) rfl (by decide) ?_
 refine rest_cons ?_ ?_
 ·exact fst_mono (fst_list (i := 1) (j := 0) (o := 1) (e := 197) (sz := 4) (ety := .struct (.cons 0 (.int .i8) (.cons 1 .str (.cons 2 (.list .str 1) .nil))) (some 3) 4) iat_C (by kernel_rfl) (by kernel_rfl) (by kernel_rfl) (by kernel_rfl) (by kernel_rfl) rfl (by kernel_rfl) rfl (mk_fill (T := 101) (k := 1) iat_C (by kernel_rfl) (by kernel_rfl) (by kernel_rfl) (by kernel_rfl) rfl (by kernel_rfl) (by kernel_rfl) (by kernel_rfl) rfl (by kernel_rfl) (by kernel_rfl) (by kernel_rfl)) (app_fill (T := 101) (k := 1) (by kernel_rfl) (by kernel_rfl) mk_DescribeConfigsRequestResource (by kernel_rfl) (by kernel_rfl) (by kernel_rfl) (by kernel_rfl) (by kernel_rfl) (by kernel_rfl) (by kernel_rfl) rfl (by kernel_rfl)) (by kernel_rfl) rfl rfl (by kernel_rfl) (by kernel_rfl)) (by simp [zeroW]) (fun _ _ => fk_list) (fun _ h => fo_list h)
 refine rest_cons ?_ ?_
 ·exact fst_mono (fst_fill (mids := [_, _, _]) (i := 2) (j := 1) (o := 2) (k := 2) (T := 101) (ty := .bool) iat_C (by kernel_rfl) (by kernel_rfl) (val_bool (by kernel_rfl) (by kernel_rfl)) rfl (by kernel_rfl) (by kernel_rfl) (by kernel_rfl) (by kernel_rfl) (by kernel_rfl)) rfl (fun _ _ => fk_bool) (fun _ h => trivial)
 refine rest_cons ?_ ?_
 ·exact fst_mono (fst_fill (mids := [_, _, _]) (i := 3) (j := 2) (o := 3) (k := 3) (T := 101) (ty := .bool) iat_C (by kernel_rfl) (by kernel_rfl) (val_bool (by kernel_rfl) (by kernel_rfl)) rfl (by kernel_rfl) (by kernel_rfl) (by kernel_rfl) (by kernel_rfl) (by kernel_rfl)) rfl (fun _ _ => fk_bool) (fun _ h => trivial)
 refine rest_tags rfl ?_
 exact tags_set rfl (by kernel_rfl) (by kernel_rfl) (by kernel_rfl) rfl (by kernel_rfl) (by kernel_rfl) (by kernel_rfl) (tag_fill (T := 101) (kt := 4) (TG := 64) (by kernel_rfl) setTag_spec (by kernel_rfl) (by kernel_rfl) (by kernel_rfl) (by kernel_rfl) (by kernel_rfl) (by kernel_rfl) (by kernel_rfl) (by kernel_rfl)) (by kernel_rfl)
theorem set_DescribeConfigsRequest : SetC Try.prog 93 { gDescribeConfigsRequest with tg := some 4 } :=
 set_rule Try.func93 rfl rfl rfl (by kernel_rfl) (by kernel_rfl) rfl rfl rfl (by decide)
theorem make_DescribeConfigsRequest : MakeC Try.prog 37 Zf Zk Zg := by
 refine make_rule (σ := gDescribeConfigsRequest) (σa := aDescribeConfigsRequest) (ot := 4) (zc := #[.int .i16 0, .slice none 0 0, .bool false, .bool false, .map none]) Try.func37 rfl rfl rfl (by kernel_rfl) (by kernel_rfl) (by kernel_rfl) (by kernel_rfl) (by kernel_rfl) (by kernel_rfl) (by kernel_rfl) (by decide) (fun w F => ?_) rfl set_DescribeConfigsRequest fill_DescribeConfigsRequest app_DescribeConfigsRequest rfl rfl rfl
 exact Lay.zero_rep gDescribeConfigsRequest.lay _ (by repeat' (first | rfl | trivial | apply And.intro))
end Go.Proofs.Ytmehfgiadapekaa
