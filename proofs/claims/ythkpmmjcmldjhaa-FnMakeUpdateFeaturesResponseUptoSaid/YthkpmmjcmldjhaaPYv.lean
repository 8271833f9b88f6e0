/-
  What kbin's functions put behind octets: yes or no, sixteen octets, octets with their length, texts that may be none.
  What kbin puts behind octets of a message's fields.
-/
import Derived.Test.YthkpmmjcmldjhaaPUu
import Derived.Test.YthkpmmjcmldjhaaPYr
set_option linter.unusedSimpArgs false
set_option linter.unusedVariables false
namespace Go.Proofs.Ythkpmmjcmldjhaa
open Go Go.RowKit
set_option maxRecDepth 100000 in
theorem app_bool {w : World} {base : Nat} {dv : Value} {out : List UInt8} {b : Bool} (hown : OwnB w base dv out) (hb : base <= w.heap.size) (hl : out.length + 1 <= 4294967296) : PutC Try.prog 83 #[dv, .bool b] w base dv out [oct8 (if b then 1 else 0)] := by
 refine calls_of_wp Try.func83 rfl ?_
 rw [Try.ntmps83]
 refine wp_act (fun a : Act => Act.get a 0 = dv /\ Act.get a 1 = .bool b /\ a.tmps.size = 12 /\ a.defers = []) ⟨by rw [Zj _ _ _ (by simp)]; rfl, by rw [Zj _ _ _ (by simp)]; rfl, by simp, rfl⟩ ?_
 rintro a ⟨a0, a1, aN, ad⟩
 refine wp_seq (wp_region_lit (Zv rfl Zi (wpList_nil ?_)))
 refine wp_seq (wp_seq (wp_region_lit (Zv rfl Zm (wpList_nil ?_))))
 refine wp_act (fun a : Act => Act.get a 0 = dv /\ Act.get a 5 = .bool b /\ a.tmps.size = 12 /\ a.defers = []) ⟨?_, ?_, ?_, ?_⟩ ?_
 ·simp (disch := first | omega | simp only [Zs]; omega) only [Zo, Ze, Zn, Zq, a0]
 ·simp (disch := first | omega | simp only [Zs]; omega) only [Zo, Ze, Zn, Zq, a1]
 ·simp only [Zs]; exact aN
 ·simp only [Zd]; exact ad
 clear a0 a1 aN ad a
 rintro a ⟨a0, a5, aN, ad⟩
 cases b with
 | true =>
  refine wp_cond_true (by rw [Ze]; exact a5) (wp_seq (wp_region_lit (Zv rfl Zm ?_)))
  refine wpl_octN (base := base) (v := dv) (bs := out) (cs := [oct8 1]) octs_info rfl (by decide) ?_ (by simp only [Zs]; omega) ?_ hown (by omega) hb ?_
  ·have e1 : (oct8 1).toNat = 1 := by decide
   simp [octV, e1]; rfl
  ·simp (disch := first | omega | simp only [Zs]; omega) only [Zo, Ze, Zn, Zq, a0]
  intro v' w' h1 h2
  refine Zv rfl Zi (wpList_nil (wp_ret ?_))
  simp only [Exit.then, Exit.inBlock]
  refine bodyPost_ret (results_tmp rfl _ _ _) ?_ ⟨_, rfl, ?_, ?_⟩
  ·simp only [Zd]; exact ad
  ·rw [show ∀ (a : Act), a.tmps.getD 4 undef = Act.get a 4 from fun _ => rfl]
   simp (disch := first | omega | simp only [Zs]; omega) only [Zo, Ze, Zn, Zq]
   exact h1
  ·rw [show ∀ (a : Act), a.tmps.getD 4 undef = Act.get a 4 from fun _ => rfl]
   simp (disch := first | omega | simp only [Zs]; omega) only [Zo, Ze, Zn, Zq]
   exact h2
 | false =>
  refine wp_cond_false (by rw [Ze]; exact a5) (wp_skip ?_)
  simp only [Exit.then, Exit.inBlock]
  refine wp_seq (wp_region_lit (Zv rfl Zm ?_))
  refine wpl_octN (base := base) (v := dv) (bs := out) (cs := [oct8 0]) octs_info rfl (by decide) ?_ (by simp only [Zs]; omega) ?_ hown (by omega) hb ?_
  ·have e1 : (oct8 0).toNat = 0 := by decide
   simp [octV, e1]; rfl
  ·simp (disch := first | omega | simp only [Zs]; omega) only [Zo, Ze, Zn, Zq, a0]
  intro v' w' h1 h2
  refine Zv rfl Zi (wpList_nil (wp_ret ?_))
  refine bodyPost_ret (results_tmp rfl _ _ _) ?_ ⟨_, rfl, ?_, ?_⟩
  ·simp only [Zd]; exact ad
  ·rw [show ∀ (a : Act), a.tmps.getD 4 undef = Act.get a 4 from fun _ => rfl]
   simp (disch := first | omega | simp only [Zs]; omega) only [Zo, Ze, Zn, Zq]
   exact h1
  ·rw [show ∀ (a : Act), a.tmps.getD 4 undef = Act.get a 4 from fun _ => rfl]
   simp (disch := first | omega | simp only [Zs]; omega) only [Zo, Ze, Zn, Zq]
   exact h2
theorem arr16_put : arr16 Try.prog 51 5 = true := by kernel_rfl
set_option maxRecDepth 100000 in
theorem app_uuid {w : World} {base : Nat} {dv : Value} {out us : List UInt8} {cs : Array Value} (hown : OwnB w base dv out) (hb : base <= w.heap.size) (hs : cs.size = 16) (hul : us.length = 16) (hus : ∀ i (h : i < us.length), from' cs 0 i = .int .u8 (us[i]).toNat) (hl : out.length + us.length <= 4294967296) :
  PutC Try.prog 81 #[dv, .agg cs] w base dv out us := by
 refine calls_of_wp Try.func81 rfl ?_
 rw [Try.ntmps81]
 refine wp_act (fun a : Act => Act.get a 0 = dv /\ Act.get a 1 = .agg cs /\ a.tmps.size = 8 /\ a.defers = []) ⟨by rw [Zj _ _ _ (by simp)]; rfl, by rw [Zj _ _ _ (by simp)]; rfl, by simp, rfl⟩ ?_
 rintro a ⟨a0, a1, aN, ad⟩
 refine wp_seq (wp_region_lit (Zv rfl x_box (Zv rfl Zi (wpList_nil ?_))))
 rw [show a.eval (.tmp 1) = .agg cs from a1]
 have g1 := Zh w (.cells (Value.agg cs).cells 51)
 have m1 : Mod none' w (w.alloc (.cells (Value.agg cs).cells 51)) := (Mod.refl w).alloc _
 generalize w.alloc (.cells (Value.agg cs).cells 51) = w1 at *
 replace g1 : w1.heap[w.heap.size]? = some (.cells cs 51 (0, 0)) := g1
 refine wp_seq (wp_region_lit (Zv rfl Zm (Zv rfl (x_sliceArr arr16_put (b := w.heap.size) (o := 0) ?_) ?_)))
 ·simp (disch := first | omega | simp only [Zs]; omega) only [Zo, Ze, Zn, Zq]
 have hown1 : OwnB w1 base dv out := hown.mod m1 (fun _ _ f => f)
 refine wpl_octsF (base := base) (v := dv) (xv := .slice (some ⟨w.heap.size, 0, none⟩) 16 16) (bs := out) (cs := us) octs_info ?_ ?_ hown1 (.inr ⟨w.heap.size, 0, 16, cs, _, (0, 0), by rw [hul], by omega, by simp only [maxLen]; omega, g1, fun i hi => ?_⟩) hl (by have := m1.size; omega) ?_
 ·simp (disch := first | omega | simp only [Zs]; omega) only [Zo, Ze, Zn, Zq, a0]
 ·simp (disch := first | omega | simp only [Zs]; omega) only [Zo, Ze, Zn, Zq]
 ·have h := hus i hi
  simp only [from', Nat.zero_add] at h ⊢
  rw [Array.getElem?_eq_getElem (by omega)]
  simpa [show i < cs.size by omega] using h
 intro v' w' h1 h2
 refine Zv rfl Zi (wpList_nil (wp_ret ?_))
 refine bodyPost_ret (results_tmp rfl _ _ _) ?_ ⟨_, rfl, ?_, ?_⟩
 ·simp only [Zd]; exact ad
 ·rw [show ∀ (a : Act), a.tmps.getD 4 undef = Act.get a 4 from fun _ => rfl]
  simp (disch := first | omega | simp only [Zs]; omega) only [Zo, Ze, Zn, Zq]
  exact h1
 ·rw [show ∀ (a : Act), a.tmps.getD 4 undef = Act.get a 4 from fun _ => rfl]
  simp (disch := first | omega | simp only [Zs]; omega) only [Zo, Ze, Zn, Zq]
  exact ⟨m1.none.trans h2.mod, fun k e => by rcases h2.own k e with h | h; exact .inl h; exact .inr (by have := m1.size; omega)⟩
set_option maxRecDepth 100000 in
theorem app_bytes {w : World} {base : Nat} {dv v : Value} {out bs : List UInt8} {nl : Bool} {F : Nat -> Prop} (hown : OwnB w base dv out) (hb : base <= w.heap.size) (ho : Oct w F v bs nl) (hbl : bs.length <= 4294967295) (hF : ∀ k, F k -> k < base) (hl : out.length + (cntE false bs.length 4 ++ bs).length <= 4294967296) :
  PutC Try.prog 86 #[dv, v] w base dv out (cntE false bs.length 4 ++ bs) := by
 have hoI := OctI.of_oct ho
 obtain ⟨ao, cap, hv, _⟩ := hoI.slice
 rw [List.length_append] at hl
 refine calls_of_wp Try.func86 rfl ?_
 rw [Try.ntmps86]
 refine wp_act (fun a : Act => Act.get a 0 = dv /\ Act.get a 1 = v /\ a.tmps.size = 13 /\ a.defers = []) ⟨by rw [Zj _ _ _ (by simp)]; rfl, by rw [Zj _ _ _ (by simp)]; rfl, by simp, rfl⟩ ?_
 rintro a ⟨a0, a1, aN, ad⟩
 refine wp_seq (wp_region_lit (Zv rfl Zi (wpList_nil ?_)))
 refine wp_seq (wp_region_lit (Zv rfl Zm (Zv rfl Zm (Zv rfl (x_len (by kernel_rfl) rfl (ao := ao) (cap := cap) (n := bs.length) ?_) (Zv rfl (x_convInt (n := (bs.length : Nat)) (k := .i64) (k' := .i32) (by kernel_rfl) (by kernel_rfl) ?_) (wpl_call rfl (Zy (by kernel_rfl) rfl) (R := fun e w' => ∃ v, e = .returned v /\ OwnB w' base v (out ++ cntE false bs.length 4) /\ Fine dv v w w') ?_ ?_))))))
 ·simp (disch := first | omega | simp only [Zs]; omega) only [Zo, Ze, Zn, Zq, a1]
  exact hv
 ·simp (disch := first | omega | simp only [Zs]; omega) only [Zo, Ze, Zn, Zq]
 ·rw [show ∀ a : Act, (#[Operand.tmp 5, .tmp 8] : Array Operand).map a.eval = #[Act.get a 5, Act.get a 8] from fun a => by simp [Ze]]
  simp (disch := first | omega | simp only [Zs]; omega) only [Zo, Ze, Zn, Zq, a0, a1]
  have h := app_i32 (n := IntKind.i32.wrap (bs.length : Nat)) hown hb (by simp only [cntE] at hl; simp [fixedE_length] at hl; omega)
  rw [fixedE_i32] at h
  exact h.out
 rintro e w1 ⟨v1, rfl, k1, k2⟩
 refine ⟨_, rfl, Zv rfl Zi (wpList_nil ?_)⟩
 have ho1 : OctI w1 v bs := OctI.of_oct (ho.mod (k2.low hown) (fun k hk e => by have := hF k hk; omega) (fun _ h => h))
 refine wp_seq (wp_region_lit (Zv rfl Zm (Zv rfl Zm (wpl_octsF (base := base) (v := v1) (xv := v) (cs := bs) octs_info ?_ ?_ k1 ho1 ?_ ?_ ?_))))
 ·simp (disch := first | omega | simp only [Zs]; omega) only [Zo, Ze, Zn, Zq]
 ·simp (disch := first | omega | simp only [Zs]; omega) only [Zo, Ze, Zn, Zq, a1]
 ·simp only [List.length_append]; omega
 ·have := k2.size; omega
 intro v' w' h1 h2'
 have h2 := k2.trans h2'
 refine Zv rfl Zi (wpList_nil (wp_ret ?_))
 refine bodyPost_ret (results_tmp rfl _ _ _) ?_ ⟨_, rfl, ?_, ?_⟩
 ·simp only [Zd]; exact ad
 ·rw [show ∀ (a : Act), a.tmps.getD 4 undef = Act.get a 4 from fun _ => rfl]
  simp (disch := first | omega | simp only [Zs]; omega) only [Zo, Ze, Zn, Zq]
  rw [List.append_assoc] at h1
  exact h1
 ·rw [show ∀ (a : Act), a.tmps.getD 4 undef = Act.get a 4 from fun _ => rfl]
  simp (disch := first | omega | simp only [Zs]; omega) only [Zo, Ze, Zn, Zq]
  exact h2
set_option maxRecDepth 100000 in
theorem app_cbytes {w : World} {base : Nat} {dv v : Value} {out bs : List UInt8} {nl : Bool} {F : Nat -> Prop} (hown : OwnB w base dv out) (hb : base <= w.heap.size) (ho : Oct w F v bs nl) (hbl : bs.length <= 4294967295) (hF : ∀ k, F k -> k < base) (hl : out.length + (cntE true bs.length 4 ++ bs).length <= 4294967296) :
  PutC Try.prog 85 #[dv, v] w base dv out (cntE true bs.length 4 ++ bs) := by
 have hoI := OctI.of_oct ho
 obtain ⟨ao, cap, hv, _⟩ := hoI.slice
 rw [List.length_append] at hl
 refine calls_of_wp Try.func85 rfl ?_
 rw [Try.ntmps85]
 refine wp_act (fun a : Act => Act.get a 0 = dv /\ Act.get a 1 = v /\ a.tmps.size = 14 /\ a.defers = []) ⟨by rw [Zj _ _ _ (by simp)]; rfl, by rw [Zj _ _ _ (by simp)]; rfl, by simp, rfl⟩ ?_
 rintro a ⟨a0, a1, aN, ad⟩
 refine wp_seq (wp_region_lit (Zv rfl Zi (wpList_nil ?_)))
 refine wp_seq (wp_region_lit (Zv rfl Zm (Zv rfl Zm (Zv rfl (x_len (by kernel_rfl) rfl (ao := ao) (cap := cap) (n := bs.length) ?_) (Zv rfl (x_convInt (n := (bs.length : Nat)) (k := .i64) (k' := .u32) (by kernel_rfl) (by kernel_rfl) ?_) (Zv rfl (x_add (k := .u32) (m := 1) (n := IntKind.u32.wrap (bs.length : Nat)) rfl ?_) (wpl_call rfl (Zy (by kernel_rfl) rfl) (R := fun e w' => ∃ v, e = .returned v /\ OwnB w' base v (out ++ cntE true bs.length 4) /\ Fine dv v w w') ?_ ?_)))))))
 ·simp (disch := first | omega | simp only [Zs]; omega) only [Zo, Ze, Zn, Zq, a1]
  exact hv
 ·simp (disch := first | omega | simp only [Zs]; omega) only [Zo, Ze, Zn, Zq]
 ·simp (disch := first | omega | simp only [Zs]; omega) only [Zo, Ze, Zn, Zq]
 ·rw [show ∀ a : Act, (#[Operand.tmp 5, .tmp 9] : Array Operand).map a.eval = #[Act.get a 5, Act.get a 9] from fun a => by simp [Ze]]
  simp (disch := first | omega | simp only [Zs]; omega) only [Zo, Ze, Zn, Zq, a0, a1]
  have e : IntKind.u32.wrap (1 + IntKind.u32.wrap (bs.length : Int)) = ((bs.length + 1) % 4294967296 : Nat) := by simp only [IntKind.wrap, IntKind.bits, IntKind.signed]; simp; omega
  rw [e]
  exact (app_uv (n := (bs.length + 1) % 4294967296) (by omega) hown hb (by simp only [cntE] at hl; simp at hl; omega)).out
 rintro e w1 ⟨v1, rfl, k1, k2⟩
 refine ⟨_, rfl, Zv rfl Zi (wpList_nil ?_)⟩
 have ho1 : OctI w1 v bs := OctI.of_oct (ho.mod (k2.low hown) (fun k hk e => by have := hF k hk; omega) (fun _ h => h))
 refine wp_seq (wp_region_lit (Zv rfl Zm (Zv rfl Zm (wpl_octsF (base := base) (v := v1) (xv := v) (cs := bs) octs_info ?_ ?_ k1 ho1 ?_ ?_ ?_))))
 ·simp (disch := first | omega | simp only [Zs]; omega) only [Zo, Ze, Zn, Zq]
 ·simp (disch := first | omega | simp only [Zs]; omega) only [Zo, Ze, Zn, Zq, a1]
 ·simp only [List.length_append]; omega
 ·have := k2.size; omega
 intro v' w' h1 h2'
 have h2 := k2.trans h2'
 refine Zv rfl Zi (wpList_nil (wp_ret ?_))
 refine bodyPost_ret (results_tmp rfl _ _ _) ?_ ⟨_, rfl, ?_, ?_⟩
 ·simp only [Zd]; exact ad
 ·rw [show ∀ (a : Act), a.tmps.getD 4 undef = Act.get a 4 from fun _ => rfl]
  simp (disch := first | omega | simp only [Zs]; omega) only [Zo, Ze, Zn, Zq]
  rw [List.append_assoc] at h1
  exact h1
 ·rw [show ∀ (a : Act), a.tmps.getD 4 undef = Act.get a 4 from fun _ => rfl]
  simp (disch := first | omega | simp only [Zs]; omega) only [Zo, Ze, Zn, Zq]
  exact h2
end Go.Proofs.Ythkpmmjcmldjhaa
set_option linter.unusedSimpArgs false
set_option linter.unusedVariables false
namespace Go.Proofs.Ythkpmmjcmldjhaa
open Go Go.RowKit
theorem av_i8 {null : Int} {fl : Bool} : AppV Try.prog 84 (.int .i8) (leafE 1 null fl) := by
 intro w F base dv out v t hown hb hr hF hl
 rcases hr with ⟨_, _, hr⟩ | ⟨h, _⟩
 ·simp only [Rep] at hr
  obtain ⟨n, rfl, _, rfl⟩ := hr
  have e : leafE 1 null fl (.num n) = fixedE n (width 1) := by simp [leafE, Tr.N_num]
  rw [e] at hl ⊢
  rw [fixedE_length] at hl
  exact app_i8 hown hb hl
 ·cases h
theorem av_i32 {null : Int} {fl : Bool} : AppV Try.prog 82 (.int .i32) (leafE 3 null fl) := by
 intro w F base dv out v t hown hb hr hF hl
 rcases hr with ⟨_, _, hr⟩ | ⟨h, _⟩
 ·simp only [Rep] at hr
  obtain ⟨n, rfl, _, rfl⟩ := hr
  have e : leafE 3 null fl (.num n) = fixedE n (width 3) := by simp [leafE, Tr.N_num]
  rw [e] at hl ⊢
  rw [fixedE_length] at hl
  exact app_i32 hown hb hl
 ·cases h
theorem av_bytes {null : Int} (hn : null < 0) : AppV Try.prog 86 .bytes (leafE 9 null false) := by
 intro w F base dv out v t hown hb hr hF hl
 rcases hr with ⟨_, _, hr⟩ | ⟨h, _⟩
 ·simp only [Rep] at hr
  obtain ⟨bs, nl, ho, hbl, rfl⟩ := hr
  have h0 : ¬ 0 <= null := by omega
  have e : leafE 9 null false (.octs bs nl) = cntE false bs.length 4 ++ bs := by simp [leafE, Tr.S_octs, Tr.Z_octs, h0]
  rw [e] at hl ⊢
  exact app_bytes hown hb ho hbl hF hl
 ·cases h
theorem av_cbytes {null : Int} (hn : null < 0) : AppV Try.prog 85 .bytes (leafE 9 null true) := by
 intro w F base dv out v t hown hb hr hF hl
 rcases hr with ⟨_, _, hr⟩ | ⟨h, _⟩
 ·simp only [Rep] at hr
  obtain ⟨bs, nl, ho, hbl, rfl⟩ := hr
  have h0 : ¬ 0 <= null := by omega
  have e : leafE 9 null true (.octs bs nl) = cntE true bs.length 4 ++ bs := by simp [leafE, Tr.S_octs, Tr.Z_octs, h0]
  rw [e] at hl ⊢
  exact app_cbytes hown hb ho hbl hF hl
 ·cases h
theorem av_uuid {null : Int} {fl : Bool} : AppV Try.prog 81 .uuid (leafE 7 null fl) := by
 intro w F base dv out v t hown hb hr hF hl
 rcases hr with ⟨h, _⟩ | ⟨_, cs, rfl, hs, _, hr⟩
 ·simp [Ty.size] at h
 ·simp only [Rep] at hr
  obtain ⟨us, hul, hus, rfl⟩ := hr
  have e : leafE 7 null fl (.oct us) = us := by simp [leafE, Tr.S_oct]
  rw [e] at hl ⊢
  exact app_uuid hown hb hs hul hus hl
theorem av_bool {null : Int} {fl : Bool} : AppV Try.prog 83 .bool (leafE 0 null fl) := by
 intro w F base dv out v t hown hb hr hF hl
 rcases hr with ⟨_, _, hr⟩ | ⟨h, _⟩
 ·simp only [Rep] at hr
  obtain ⟨b, rfl, rfl⟩ := hr
  have e : leafE 0 null fl (.ofBool b) = [oct8 (if b then 1 else 0)] := by simp [leafE, Tr.N_ofBool]
  rw [e] at hl ⊢
  exact app_bool hown hb hl
 ·cases h
end Go.Proofs.Ythkpmmjcmldjhaa
