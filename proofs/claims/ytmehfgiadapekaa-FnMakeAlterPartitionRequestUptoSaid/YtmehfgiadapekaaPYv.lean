/-
  What kbin's functions put behind octets: yes or no, sixteen octets, octets with their length, texts that may be none.
  What kbin puts behind octets of a message's fields.
-/
import Derived.Test.YtmehfgiadapekaaPUu
import Derived.Test.YtmehfgiadapekaaPYr
set_option linter.unusedSimpArgs false
set_option linter.unusedVariables false
namespace Go.Proofs.Ytmehfgiadapekaa
open Go Go.RowKit
set_option maxRecDepth 100000 in
theorem app_bool {w : World} {base : Nat} {dv : Value} {out : List UInt8} {b : Bool} (hown : OwnB w base dv out) (hb : base <= w.heap.size) (hl : out.length + 1 <= 4294967296) : PutC Try.prog 170 #[dv, .bool b] w base dv out [oct8 (if b then 1 else 0)] := by
 refine calls_of_wp Try.func170 rfl ?_
 rw [Try.ntmps170]
 refine wp_act (fun a : Act => Act.get a 0 = dv /\ Act.get a 1 = .bool b /\ a.tmps.size = 12 /\ a.defers = []) ⟨by rw [Zj _ _ _ (by simp)]; rfl, by rw [Zj _ _ _ (by simp)]; rfl, by simp, rfl⟩ ?_
 rintro a ⟨a0, a1, aN, ad⟩
 refine wp_seq (wp_region_lit (Zv rfl Zi (wpList_nil ?_)))
 refine wp_seq (wp_seq (wp_region_lit (Zv rfl Zm (wpList_nil ?_))))
 refine wp_act (fun a : Act => Act.get a 0 = dv /\ Act.get a 5 = .bool b /\ a.tmps.size = 12 /\ a.defers = []) ⟨?_, ?_, ?_, ?_⟩ ?_
 ·simp (disch := first | omega | simp only [Zs]; omega) only [Zo, Ze, Zn, Zq, a0]
 ·simp (disch := first | omega | simp only [Zs]; omega) only [Zo, Ze, Zn, Zq, a1]
 ·simp only [Zs]; exact aN
 ·simp only [Zd]; exact ad
 clear a0 a1 aN ad a
 rintro a ⟨a0, a5, aN, ad⟩
 cases b with
 | true =>
  refine wp_cond_true (by rw [Ze]; exact a5) (wp_seq (wp_region_lit (Zv rfl Zm ?_)))
  refine wpl_octN (base := base) (v := dv) (bs := out) (cs := [oct8 1]) octs_info rfl (by decide) ?_ (by simp only [Zs]; omega) ?_ hown (by omega) hb ?_
  ·have e1 : (oct8 1).toNat = 1 := by decide
   simp [octV, e1]; rfl
  ·simp (disch := first | omega | simp only [Zs]; omega) only [Zo, Ze, Zn, Zq, a0]
  intro v' w' h1 h2
  refine Zv rfl Zi (wpList_nil (wp_ret ?_))
  simp only [Exit.then, Exit.inBlock]
  refine bodyPost_ret (results_tmp rfl _ _ _) ?_ ⟨_, rfl, ?_, ?_⟩
  ·simp only [Zd]; exact ad
  ·rw [show ∀ (a : Act), a.tmps.getD 4 undef = Act.get a 4 from fun _ => rfl]
   simp (disch := first | omega | simp only [Zs]; omega) only [Zo, Ze, Zn, Zq]
   exact h1
  ·rw [show ∀ (a : Act), a.tmps.getD 4 undef = Act.get a 4 from fun _ => rfl]
   simp (disch := first | omega | simp only [Zs]; omega) only [Zo, Ze, Zn, Zq]
   exact h2
 | false =>
  refine wp_cond_false (by rw [Ze]; exact a5) (wp_skip ?_)
  simp only [Exit.then, Exit.inBlock]
  refine wp_seq (wp_region_lit (Zv rfl Zm ?_))
  refine wpl_octN (base := base) (v := dv) (bs := out) (cs := [oct8 0]) octs_info rfl (by decide) ?_ (by simp only [Zs]; omega) ?_ hown (by omega) hb ?_
  ·have e1 : (oct8 0).toNat = 0 := by decide
   simp [octV, e1]; rfl
  ·simp (disch := first | omega | simp only [Zs]; omega) only [Zo, Ze, Zn, Zq, a0]
  intro v' w' h1 h2
  refine Zv rfl Zi (wpList_nil (wp_ret ?_))
  refine bodyPost_ret (results_tmp rfl _ _ _) ?_ ⟨_, rfl, ?_, ?_⟩
  ·simp only [Zd]; exact ad
  ·rw [show ∀ (a : Act), a.tmps.getD 4 undef = Act.get a 4 from fun _ => rfl]
   simp (disch := first | omega | simp only [Zs]; omega) only [Zo, Ze, Zn, Zq]
   exact h1
  ·rw [show ∀ (a : Act), a.tmps.getD 4 undef = Act.get a 4 from fun _ => rfl]
   simp (disch := first | omega | simp only [Zs]; omega) only [Zo, Ze, Zn, Zq]
   exact h2
theorem arr16_put : arr16 Try.prog 84 5 = true := by kernel_rfl
set_option maxRecDepth 100000 in
theorem app_uuid {w : World} {base : Nat} {dv : Value} {out us : List UInt8} {cs : Array Value} (hown : OwnB w base dv out) (hb : base <= w.heap.size) (hs : cs.size = 16) (hul : us.length = 16) (hus : ∀ i (h : i < us.length), from' cs 0 i = .int .u8 (us[i]).toNat) (hl : out.length + us.length <= 4294967296) :
  PutC Try.prog 150 #[dv, .agg cs] w base dv out us := by
 refine calls_of_wp Try.func150 rfl ?_
 rw [Try.ntmps150]
 refine wp_act (fun a : Act => Act.get a 0 = dv /\ Act.get a 1 = .agg cs /\ a.tmps.size = 8 /\ a.defers = []) ⟨by rw [Zj _ _ _ (by simp)]; rfl, by rw [Zj _ _ _ (by simp)]; rfl, by simp, rfl⟩ ?_
 rintro a ⟨a0, a1, aN, ad⟩
 refine wp_seq (wp_region_lit (Zv rfl x_box (Zv rfl Zi (wpList_nil ?_))))
 rw [show a.eval (.tmp 1) = .agg cs from a1]
 have g1 := Zh w (.cells (Value.agg cs).cells 84)
 have m1 : Mod none' w (w.alloc (.cells (Value.agg cs).cells 84)) := (Mod.refl w).alloc _
 generalize w.alloc (.cells (Value.agg cs).cells 84) = w1 at *
 replace g1 : w1.heap[w.heap.size]? = some (.cells cs 84 (0, 0)) := g1
 refine wp_seq (wp_region_lit (Zv rfl Zm (Zv rfl (x_sliceArr arr16_put (b := w.heap.size) (o := 0) ?_) ?_)))
 ·simp (disch := first | omega | simp only [Zs]; omega) only [Zo, Ze, Zn, Zq]
 have hown1 : OwnB w1 base dv out := hown.mod m1 (fun _ _ f => f)
 refine wpl_octsF (base := base) (v := dv) (xv := .slice (some ⟨w.heap.size, 0, none⟩) 16 16) (bs := out) (cs := us) octs_info ?_ ?_ hown1 (.inr ⟨w.heap.size, 0, 16, cs, _, (0, 0), by rw [hul], by omega, by simp only [maxLen]; omega, g1, fun i hi => ?_⟩) hl (by have := m1.size; omega) ?_
 ·simp (disch := first | omega | simp only [Zs]; omega) only [Zo, Ze, Zn, Zq, a0]
 ·simp (disch := first | omega | simp only [Zs]; omega) only [Zo, Ze, Zn, Zq]
 ·have h := hus i hi
  simp only [from', Nat.zero_add] at h ⊢
  rw [Array.getElem?_eq_getElem (by omega)]
  simpa [show i < cs.size by omega] using h
 intro v' w' h1 h2
 refine Zv rfl Zi (wpList_nil (wp_ret ?_))
 refine bodyPost_ret (results_tmp rfl _ _ _) ?_ ⟨_, rfl, ?_, ?_⟩
 ·simp only [Zd]; exact ad
 ·rw [show ∀ (a : Act), a.tmps.getD 4 undef = Act.get a 4 from fun _ => rfl]
  simp (disch := first | omega | simp only [Zs]; omega) only [Zo, Ze, Zn, Zq]
  exact h1
 ·rw [show ∀ (a : Act), a.tmps.getD 4 undef = Act.get a 4 from fun _ => rfl]
  simp (disch := first | omega | simp only [Zs]; omega) only [Zo, Ze, Zn, Zq]
  exact ⟨m1.none.trans h2.mod, fun k e => by rcases h2.own k e with h | h; exact .inl h; exact .inr (by have := m1.size; omega)⟩
set_option maxRecDepth 100000 in
theorem app_bytes {w : World} {base : Nat} {dv v : Value} {out bs : List UInt8} {nl : Bool} {F : Nat -> Prop} (hown : OwnB w base dv out) (hb : base <= w.heap.size) (ho : Oct w F v bs nl) (hbl : bs.length <= 4294967295) (hF : ∀ k, F k -> k < base) (hl : out.length + (cntE false bs.length 4 ++ bs).length <= 4294967296) :
  PutC Try.prog 175 #[dv, v] w base dv out (cntE false bs.length 4 ++ bs) := by
 have hoI := OctI.of_oct ho
 obtain ⟨ao, cap, hv, _⟩ := hoI.slice
 rw [List.length_append] at hl
 refine calls_of_wp Try.func175 rfl ?_
 rw [Try.ntmps175]
 refine wp_act (fun a : Act => Act.get a 0 = dv /\ Act.get a 1 = v /\ a.tmps.size = 13 /\ a.defers = []) ⟨by rw [Zj _ _ _ (by simp)]; rfl, by rw [Zj _ _ _ (by simp)]; rfl, by simp, rfl⟩ ?_
 rintro a ⟨a0, a1, aN, ad⟩
 refine wp_seq (wp_region_lit (Zv rfl Zi (wpList_nil ?_)))
 refine wp_seq (wp_region_lit (Zv rfl Zm (Zv rfl Zm (Zv rfl (x_len (by kernel_rfl) rfl (ao := ao) (cap := cap) (n := bs.length) ?_) (Zv rfl (x_convInt (n := (bs.length : Nat)) (k := .i64) (k' := .i32) (by kernel_rfl) (by kernel_rfl) ?_) (wpl_call rfl (Zy (by kernel_rfl) rfl) (R := fun e w' => ∃ v, e = .returned v /\ OwnB w' base v (out ++ cntE false bs.length 4) /\ Fine dv v w w') ?_ ?_))))))
 ·simp (disch := first | omega | simp only [Zs]; omega) only [Zo, Ze, Zn, Zq, a1]
  exact hv
 ·simp (disch := first | omega | simp only [Zs]; omega) only [Zo, Ze, Zn, Zq]
 ·rw [show ∀ a : Act, (#[Operand.tmp 5, .tmp 8] : Array Operand).map a.eval = #[Act.get a 5, Act.get a 8] from fun a => by simp [Ze]]
  simp (disch := first | omega | simp only [Zs]; omega) only [Zo, Ze, Zn, Zq, a0, a1]
  have h := app_i32 (n := IntKind.i32.wrap (bs.length : Nat)) hown hb (by simp only [cntE] at hl; simp [fixedE_length] at hl; omega)
  rw [fixedE_i32] at h
  exact h.out
 rintro e w1 ⟨v1, rfl, k1, k2⟩
 refine ⟨_, rfl, Zv rfl Zi (wpList_nil ?_)⟩
 have ho1 : OctI w1 v bs := OctI.of_oct (ho.mod (k2.low hown) (fun k hk e => by have := hF k hk; omega) (fun _ h => h))
 refine wp_seq (wp_region_lit (Zv rfl Zm (Zv rfl Zm (wpl_octsF (base := base) (v := v1) (xv := v) (cs := bs) octs_info ?_ ?_ k1 ho1 ?_ ?_ ?_))))
 ·simp (disch := first | omega | simp only [Zs]; omega) only [Zo, Ze, Zn, Zq]
 ·simp (disch := first | omega | simp only [Zs]; omega) only [Zo, Ze, Zn, Zq, a1]
 ·simp only [List.length_append]; omega
 ·have := k2.size; omega
 intro v' w' h1 h2'
 have h2 := k2.trans h2'
 refine Zv rfl Zi (wpList_nil (wp_ret ?_))
 refine bodyPost_ret (results_tmp rfl _ _ _) ?_ ⟨_, rfl, ?_, ?_⟩
 ·simp only [Zd]; exact ad
 ·rw [show ∀ (a : Act), a.tmps.getD 4 undef = Act.get a 4 from fun _ => rfl]
  simp (disch := first | omega | simp only [Zs]; omega) only [Zo, Ze, Zn, Zq]
  rw [List.append_assoc] at h1
  exact h1
 ·rw [show ∀ (a : Act), a.tmps.getD 4 undef = Act.get a 4 from fun _ => rfl]
  simp (disch := first | omega | simp only [Zs]; omega) only [Zo, Ze, Zn, Zq]
  exact h2
set_option maxRecDepth 100000 in
theorem app_cbytes {w : World} {base : Nat} {dv v : Value} {out bs : List UInt8} {nl : Bool} {F : Nat -> Prop} (hown : OwnB w base dv out) (hb : base <= w.heap.size) (ho : Oct w F v bs nl) (hbl : bs.length <= 4294967295) (hF : ∀ k, F k -> k < base) (hl : out.length + (cntE true bs.length 4 ++ bs).length <= 4294967296) :
  PutC Try.prog 174 #[dv, v] w base dv out (cntE true bs.length 4 ++ bs) := by
 have hoI := OctI.of_oct ho
 obtain ⟨ao, cap, hv, _⟩ := hoI.slice
 rw [List.length_append] at hl
 refine calls_of_wp Try.func174 rfl ?_
 rw [Try.ntmps174]
 refine wp_act (fun a : Act => Act.get a 0 = dv /\ Act.get a 1 = v /\ a.tmps.size = 14 /\ a.defers = []) ⟨by rw [Zj _ _ _ (by simp)]; rfl, by rw [Zj _ _ _ (by simp)]; rfl, by simp, rfl⟩ ?_
 rintro a ⟨a0, a1, aN, ad⟩
 refine wp_seq (wp_region_lit (Zv rfl Zi (wpList_nil ?_)))
 refine wp_seq (wp_region_lit (Zv rfl Zm (Zv rfl Zm (Zv rfl (x_len (by kernel_rfl) rfl (ao := ao) (cap := cap) (n := bs.length) ?_) (Zv rfl (x_convInt (n := (bs.length : Nat)) (k := .i64) (k' := .u32) (by kernel_rfl) (by kernel_rfl) ?_) (Zv rfl (x_add (k := .u32) (m := 1) (n := IntKind.u32.wrap (bs.length : Nat)) rfl ?_) (wpl_call rfl (Zy (by kernel_rfl) rfl) (R := fun e w' => ∃ v, e = .returned v /\ OwnB w' base v (out ++ cntE true bs.length 4) /\ Fine dv v w w') ?_ ?_)))))))
 ·simp (disch := first | omega | simp only [Zs]; omega) only [Zo, Ze, Zn, Zq, a1]
  exact hv
 ·simp (disch := first | omega | simp only [Zs]; omega) only [Zo, Ze, Zn, Zq]
 ·simp (disch := first | omega | simp only [Zs]; omega) only [Zo, Ze, Zn, Zq]
 ·rw [show ∀ a : Act, (#[Operand.tmp 5, .tmp 9] : Array Operand).map a.eval = #[Act.get a 5, Act.get a 9] from fun a => by simp [Ze]]
  simp (disch := first | omega | simp only [Zs]; omega) only [Zo, Ze, Zn, Zq, a0, a1]
  have e : IntKind.u32.wrap (1 + IntKind.u32.wrap (bs.length : Int)) = ((bs.length + 1) % 4294967296 : Nat) := by simp only [IntKind.wrap, IntKind.bits, IntKind.signed]; simp; omega
  rw [e]
  exact (app_uv (n := (bs.length + 1) % 4294967296) (by omega) hown hb (by simp only [cntE] at hl; simp at hl; omega)).out
 rintro e w1 ⟨v1, rfl, k1, k2⟩
 refine ⟨_, rfl, Zv rfl Zi (wpList_nil ?_)⟩
 have ho1 : OctI w1 v bs := OctI.of_oct (ho.mod (k2.low hown) (fun k hk e => by have := hF k hk; omega) (fun _ h => h))
 refine wp_seq (wp_region_lit (Zv rfl Zm (Zv rfl Zm (wpl_octsF (base := base) (v := v1) (xv := v) (cs := bs) octs_info ?_ ?_ k1 ho1 ?_ ?_ ?_))))
 ·simp (disch := first | omega | simp only [Zs]; omega) only [Zo, Ze, Zn, Zq]
 ·simp (disch := first | omega | simp only [Zs]; omega) only [Zo, Ze, Zn, Zq, a1]
 ·simp only [List.length_append]; omega
 ·have := k2.size; omega
 intro v' w' h1 h2'
 have h2 := k2.trans h2'
 refine Zv rfl Zi (wpList_nil (wp_ret ?_))
 refine bodyPost_ret (results_tmp rfl _ _ _) ?_ ⟨_, rfl, ?_, ?_⟩
 ·simp only [Zd]; exact ad
 ·rw [show ∀ (a : Act), a.tmps.getD 4 undef = Act.get a 4 from fun _ => rfl]
  simp (disch := first | omega | simp only [Zs]; omega) only [Zo, Ze, Zn, Zq]
  rw [List.append_assoc] at h1
  exact h1
 ·rw [show ∀ (a : Act), a.tmps.getD 4 undef = Act.get a 4 from fun _ => rfl]
  simp (disch := first | omega | simp only [Zs]; omega) only [Zo, Ze, Zn, Zq]
  exact h2
/-- what is put behind octets of a text that may be none -/
def nstrE (fl : Bool) : Option (List UInt8) -> List UInt8
 | none => nulE fl 2
 | some bs => cntE fl bs.length 2 ++ bs
set_option maxRecDepth 100000 in
theorem app_nstr {w : World} {base : Nat} {dv v : Value} {out : List UInt8} {o : Option (List UInt8)} {F : Nat -> Prop} (hown : OwnB w base dv out) (hb : base <= w.heap.size) (ho : PStr w F v o) (hF : ∀ k, F k -> k < base) (hl : out.length + (nstrE false o).length <= 4294967296) :
  PutC Try.prog 155 #[dv, v] w base dv out (nstrE false o) := by
 refine calls_of_wp Try.func155 rfl ?_
 rw [Try.ntmps155]
 refine wp_act (fun a : Act => Act.get a 0 = dv /\ Act.get a 1 = v /\ a.tmps.size = 14 /\ a.defers = []) ⟨by rw [Zj _ _ _ (by simp)]; rfl, by rw [Zj _ _ _ (by simp)]; rfl, by simp, rfl⟩ ?_
 rintro a ⟨a0, a1, aN, ad⟩
 refine wp_seq (wp_region_lit (Zv rfl Zi (wpList_nil ?_)))
 obtain ⟨pa, hpa, hno⟩ : ∃ pa, v = .pointer pa /\ pa.isNone = o.isNone := by
  cases o with
  | none => exact ⟨none, ho, rfl⟩
  | some bs => obtain ⟨k, t, _, h, _⟩ := ho; exact ⟨_, h, rfl⟩
 refine wp_seq (wp_seq (wp_region_lit (Zv rfl Zm (Zv rfl (x_eqlPtr (m := pa) (by kernel_rfl) (fun _ => rfl) ?_) (wpList_nil ?_)))))
 ·simp (disch := first | omega | simp only [Zs]; omega) only [Zo, Ze, Zn, Zq, a1]
  exact hpa
 rw [hno]
 refine wp_act (fun a : Act => Act.get a 0 = dv /\ Act.get a 1 = v /\ Act.get a 6 = .bool o.isNone /\ a.tmps.size = 14 /\ a.defers = []) ⟨?_, ?_, ?_, ?_, ?_⟩ ?_
 ·simp (disch := first | omega | simp only [Zs]; omega) only [Zo, Ze, Zn, Zq, a0]
 ·simp (disch := first | omega | simp only [Zs]; omega) only [Zo, Ze, Zn, Zq, a1]
 ·simp (disch := first | omega | simp only [Zs]; omega) only [Zo, Ze, Zn, Zq]
 ·simp only [Zs]; exact aN
 ·simp only [Zd]; exact ad
 clear a0 a1 aN ad a
 rintro a ⟨a0, a1, a6, aN, ad⟩
 cases o with
 | none =>
  refine wp_cond_true (by rw [Ze]; exact a6) (wp_seq (wp_region_lit (Zv rfl Zm (wpl_call rfl (Zy (by kernel_rfl) rfl) (R := fun e w' => ∃ v, e = .returned v /\ OwnB w' base v (out ++ nulE false 2) /\ Fine dv v w w') ?_ ?_))))
  ·rw [show ∀ (a : Act) u, (#[Operand.tmp 7, .const u] : Array Operand).map a.eval = #[Act.get a 7, u] from fun a u => by simp [Ze]; rfl]
   simp (disch := first | omega | simp only [Zs]; omega) only [Zo, Ze, Zn, Zq, a0]
   exact (app_i16 (n := -1) hown hb hl).out
  rintro e w1 ⟨v1, rfl, k1, k2⟩
  refine ⟨_, rfl, Zv rfl Zi (wpList_nil (wp_ret ?_))⟩
  simp only [Exit.then, Exit.inBlock]
  refine bodyPost_ret (results_tmp rfl _ _ _) ?_ ⟨_, rfl, ?_, ?_⟩
  ·simp only [Zd]; exact ad
  ·rw [show ∀ (a : Act), a.tmps.getD 4 undef = Act.get a 4 from fun _ => rfl]
   simp (disch := first | omega | simp only [Zs]; omega) only [Zo, Ze, Zn, Zq]
   exact k1
  ·rw [show ∀ (a : Act), a.tmps.getD 4 undef = Act.get a 4 from fun _ => rfl]
   simp (disch := first | omega | simp only [Zs]; omega) only [Zo, Ze, Zn, Zq]
   exact k2
 | some bs =>
  obtain ⟨kb, tb, hk, hvp, hkb⟩ := ho
  refine wp_cond_false (by rw [Ze]; exact a6) (wp_skip ?_)
  simp only [Exit.then, Exit.inBlock]
  refine wp_seq (wp_region_lit (Zv rfl Zm (Zv rfl Zm (Zv rfl (x_nilCheck (q := ⟨kb, 0, none⟩) ?_) (Zv rfl (Zl (by kernel_rfl) (b := kb) (o := 0) (v := .string (str bs)) ?_ (by rw [Zc hkb]; rfl)) (wpl_call rfl (Zy (by kernel_rfl) rfl) (R := fun e w' => ∃ v, e = .returned v /\ OwnB w' base v (out ++ (cntE false bs.length 2 ++ bs)) /\ Fine dv v w w') ?_ ?_))))))
  ·simp (disch := first | omega | simp only [Zs]; omega) only [Zo, Ze, Zn, Zq, a1]
   exact hvp
  ·simp (disch := first | omega | simp only [Zs]; omega) only [Zo, Ze, Zn, Zq]
  ·rw [show ∀ a : Act, (#[Operand.tmp 9, .tmp 12] : Array Operand).map a.eval = #[Act.get a 9, Act.get a 12] from fun a => by simp [Ze]]
   simp (disch := first | omega | simp only [Zs]; omega) only [Zo, Ze, Zn, Zq, a0]
   exact (app_str hown hb hl).out
  rintro e w1 ⟨v1, rfl, k1, k2⟩
  refine ⟨_, rfl, Zv rfl Zi (wpList_nil (wp_ret ?_))⟩
  refine bodyPost_ret (results_tmp rfl _ _ _) ?_ ⟨_, rfl, ?_, ?_⟩
  ·simp only [Zd]; exact ad
  ·rw [show ∀ (a : Act), a.tmps.getD 4 undef = Act.get a 4 from fun _ => rfl]
   simp (disch := first | omega | simp only [Zs]; omega) only [Zo, Ze, Zn, Zq]
   exact k1
  ·rw [show ∀ (a : Act), a.tmps.getD 4 undef = Act.get a 4 from fun _ => rfl]
   simp (disch := first | omega | simp only [Zs]; omega) only [Zo, Ze, Zn, Zq]
   exact k2
set_option maxRecDepth 100000 in
theorem app_cnstr {w : World} {base : Nat} {dv v : Value} {out : List UInt8} {o : Option (List UInt8)} {F : Nat -> Prop} (hown : OwnB w base dv out) (hb : base <= w.heap.size) (ho : PStr w F v o) (hF : ∀ k, F k -> k < base) (hl : out.length + (nstrE true o).length <= 4294967296) :
  PutC Try.prog 154 #[dv, v] w base dv out (nstrE true o) := by
 refine calls_of_wp Try.func154 rfl ?_
 rw [Try.ntmps154]
 refine wp_act (fun a : Act => Act.get a 0 = dv /\ Act.get a 1 = v /\ a.tmps.size = 14 /\ a.defers = []) ⟨by rw [Zj _ _ _ (by simp)]; rfl, by rw [Zj _ _ _ (by simp)]; rfl, by simp, rfl⟩ ?_
 rintro a ⟨a0, a1, aN, ad⟩
 refine wp_seq (wp_region_lit (Zv rfl Zi (wpList_nil ?_)))
 obtain ⟨pa, hpa, hno⟩ : ∃ pa, v = .pointer pa /\ pa.isNone = o.isNone := by
  cases o with
  | none => exact ⟨none, ho, rfl⟩
  | some bs => obtain ⟨k, t, _, h, _⟩ := ho; exact ⟨_, h, rfl⟩
 refine wp_seq (wp_seq (wp_region_lit (Zv rfl Zm (Zv rfl (x_eqlPtr (m := pa) (by kernel_rfl) (fun _ => rfl) ?_) (wpList_nil ?_)))))
 ·simp (disch := first | omega | simp only [Zs]; omega) only [Zo, Ze, Zn, Zq, a1]
  exact hpa
 rw [hno]
 refine wp_act (fun a : Act => Act.get a 0 = dv /\ Act.get a 1 = v /\ Act.get a 6 = .bool o.isNone /\ a.tmps.size = 14 /\ a.defers = []) ⟨?_, ?_, ?_, ?_, ?_⟩ ?_
 ·simp (disch := first | omega | simp only [Zs]; omega) only [Zo, Ze, Zn, Zq, a0]
 ·simp (disch := first | omega | simp only [Zs]; omega) only [Zo, Ze, Zn, Zq, a1]
 ·simp (disch := first | omega | simp only [Zs]; omega) only [Zo, Ze, Zn, Zq]
 ·simp only [Zs]; exact aN
 ·simp only [Zd]; exact ad
 clear a0 a1 aN ad a
 rintro a ⟨a0, a1, a6, aN, ad⟩
 cases o with
 | none =>
  refine wp_cond_true (by rw [Ze]; exact a6) (wp_seq (wp_region_lit (Zv rfl Zm (wpl_call rfl (Zy (by kernel_rfl) rfl) (R := fun e w' => ∃ v, e = .returned v /\ OwnB w' base v (out ++ nulE true 2) /\ Fine dv v w w') ?_ ?_))))
  ·rw [show ∀ (a : Act) u, (#[Operand.tmp 7, .const u] : Array Operand).map a.eval = #[Act.get a 7, u] from fun a u => by simp [Ze]; rfl]
   simp (disch := first | omega | simp only [Zs]; omega) only [Zo, Ze, Zn, Zq, a0]
   have e : uvE 0 = [0] := by rw [uvE_small (by decide)]; rfl
   have h := app_uv (n := 0) (by decide) hown hb (by rw [e]; exact hl)
   rw [e] at h
   exact h.out
  rintro e w1 ⟨v1, rfl, k1, k2⟩
  refine ⟨_, rfl, Zv rfl Zi (wpList_nil (wp_ret ?_))⟩
  simp only [Exit.then, Exit.inBlock]
  refine bodyPost_ret (results_tmp rfl _ _ _) ?_ ⟨_, rfl, ?_, ?_⟩
  ·simp only [Zd]; exact ad
  ·rw [show ∀ (a : Act), a.tmps.getD 4 undef = Act.get a 4 from fun _ => rfl]
   simp (disch := first | omega | simp only [Zs]; omega) only [Zo, Ze, Zn, Zq]
   exact k1
  ·rw [show ∀ (a : Act), a.tmps.getD 4 undef = Act.get a 4 from fun _ => rfl]
   simp (disch := first | omega | simp only [Zs]; omega) only [Zo, Ze, Zn, Zq]
   exact k2
 | some bs =>
  obtain ⟨kb, tb, hk, hvp, hkb⟩ := ho
  refine wp_cond_false (by rw [Ze]; exact a6) (wp_skip ?_)
  simp only [Exit.then, Exit.inBlock]
  refine wp_seq (wp_region_lit (Zv rfl Zm (Zv rfl Zm (Zv rfl (x_nilCheck (q := ⟨kb, 0, none⟩) ?_) (Zv rfl (Zl (by kernel_rfl) (b := kb) (o := 0) (v := .string (str bs)) ?_ (by rw [Zc hkb]; rfl)) (wpl_call rfl (Zy (by kernel_rfl) rfl) (R := fun e w' => ∃ v, e = .returned v /\ OwnB w' base v (out ++ (cntE true bs.length 2 ++ bs)) /\ Fine dv v w w') ?_ ?_))))))
  ·simp (disch := first | omega | simp only [Zs]; omega) only [Zo, Ze, Zn, Zq, a1]
   exact hvp
  ·simp (disch := first | omega | simp only [Zs]; omega) only [Zo, Ze, Zn, Zq]
  ·rw [show ∀ a : Act, (#[Operand.tmp 9, .tmp 12] : Array Operand).map a.eval = #[Act.get a 9, Act.get a 12] from fun a => by simp [Ze]]
   simp (disch := first | omega | simp only [Zs]; omega) only [Zo, Ze, Zn, Zq, a0]
   exact (app_cstr hown hb hl).out
  rintro e w1 ⟨v1, rfl, k1, k2⟩
  refine ⟨_, rfl, Zv rfl Zi (wpList_nil (wp_ret ?_))⟩
  refine bodyPost_ret (results_tmp rfl _ _ _) ?_ ⟨_, rfl, ?_, ?_⟩
  ·simp only [Zd]; exact ad
  ·rw [show ∀ (a : Act), a.tmps.getD 4 undef = Act.get a 4 from fun _ => rfl]
   simp (disch := first | omega | simp only [Zs]; omega) only [Zo, Ze, Zn, Zq]
   exact k1
  ·rw [show ∀ (a : Act), a.tmps.getD 4 undef = Act.get a 4 from fun _ => rfl]
   simp (disch := first | omega | simp only [Zs]; omega) only [Zo, Ze, Zn, Zq]
   exact k2
end Go.Proofs.Ytmehfgiadapekaa
set_option linter.unusedSimpArgs false
set_option linter.unusedVariables false
namespace Go.Proofs.Ytmehfgiadapekaa
open Go Go.RowKit
theorem av_i8 {null : Int} {fl : Bool} : AppV Try.prog 167 (.int .i8) (leafE 1 null fl) := by
 intro w F base dv out v t hown hb hr hF hl
 rcases hr with ⟨_, _, hr⟩ | ⟨h, _⟩
 ·simp only [Rep] at hr
  obtain ⟨n, rfl, _, rfl⟩ := hr
  have e : leafE 1 null fl (.num n) = fixedE n (width 1) := by simp [leafE, Tr.N_num]
  rw [e] at hl ⊢
  rw [fixedE_length] at hl
  exact app_i8 hown hb hl
 ·cases h
theorem av_i16 {null : Int} {fl : Bool} : AppV Try.prog 135 (.int .i16) (leafE 2 null fl) := by
 intro w F base dv out v t hown hb hr hF hl
 rcases hr with ⟨_, _, hr⟩ | ⟨h, _⟩
 ·simp only [Rep] at hr
  obtain ⟨n, rfl, _, rfl⟩ := hr
  have e : leafE 2 null fl (.num n) = fixedE n (width 2) := by simp [leafE, Tr.N_num]
  rw [e] at hl ⊢
  rw [fixedE_length] at hl
  exact app_i16 hown hb hl
 ·cases h
theorem av_i32 {null : Int} {fl : Bool} : AppV Try.prog 130 (.int .i32) (leafE 3 null fl) := by
 intro w F base dv out v t hown hb hr hF hl
 rcases hr with ⟨_, _, hr⟩ | ⟨h, _⟩
 ·simp only [Rep] at hr
  obtain ⟨n, rfl, _, rfl⟩ := hr
  have e : leafE 3 null fl (.num n) = fixedE n (width 3) := by simp [leafE, Tr.N_num]
  rw [e] at hl ⊢
  rw [fixedE_length] at hl
  exact app_i32 hown hb hl
 ·cases h
theorem av_i64 {null : Int} {fl : Bool} : AppV Try.prog 136 (.int .i64) (leafE 4 null fl) := by
 intro w F base dv out v t hown hb hr hF hl
 rcases hr with ⟨_, _, hr⟩ | ⟨h, _⟩
 ·simp only [Rep] at hr
  obtain ⟨n, rfl, _, rfl⟩ := hr
  have e : leafE 4 null fl (.num n) = fixedE n (width 4) := by simp [leafE, Tr.N_num]
  rw [e] at hl ⊢
  rw [fixedE_length] at hl
  exact app_i64 hown hb hl
 ·cases h
theorem av_u16 {null : Int} {fl : Bool} : AppV Try.prog 161 (.int .u16) (leafE 5 null fl) := by
 intro w F base dv out v t hown hb hr hF hl
 rcases hr with ⟨_, _, hr⟩ | ⟨h, _⟩
 ·simp only [Rep] at hr
  obtain ⟨n, rfl, _, rfl⟩ := hr
  have e : leafE 5 null fl (.num n) = fixedE n (width 5) := by simp [leafE, Tr.N_num]
  rw [e] at hl ⊢
  rw [fixedE_length] at hl
  exact app_u16 hown hb hl
 ·cases h
theorem av_str {null : Int} (hn : null < 0) : AppV Try.prog 134 .str (leafE 8 null false) := by
 intro w F base dv out v t hown hb hr hF hl
 rcases hr with ⟨_, _, hr⟩ | ⟨h, _⟩
 ·simp only [Rep] at hr
  obtain ⟨bs, rfl, _, rfl⟩ := hr
  have e : leafE 8 null false (.oct bs) = cntE false bs.length 2 ++ bs := by simp [leafE, Tr.S_oct, Tr.Z_oct]
  rw [e] at hl ⊢
  exact app_str hown hb hl
 ·cases h
theorem av_cstr {null : Int} (hn : null < 0) : AppV Try.prog 133 .str (leafE 8 null true) := by
 intro w F base dv out v t hown hb hr hF hl
 rcases hr with ⟨_, _, hr⟩ | ⟨h, _⟩
 ·simp only [Rep] at hr
  obtain ⟨bs, rfl, _, rfl⟩ := hr
  have e : leafE 8 null true (.oct bs) = cntE true bs.length 2 ++ bs := by simp [leafE, Tr.S_oct, Tr.Z_oct]
  rw [e] at hl ⊢
  exact app_cstr hown hb hl
 ·cases h
theorem av_nstr {null : Int} (hn : 0 <= null) : AppV Try.prog 155 .pstr (leafE 8 null false) := by
 intro w F base dv out v t hown hb hr hF hl
 rcases hr with ⟨_, _, hr⟩ | ⟨h, _⟩
 ·simp only [Rep] at hr
  obtain ⟨o, ho, _, rfl⟩ := hr
  cases o with
  | none =>
   have e : leafE 8 null false (.ofOpt none) = nulE false 2 := by simp [leafE, Tr.ofOpt, Tr.Z_nul, hn]
   rw [e] at hl ⊢
   exact app_nstr (o := none) hown hb ho hF hl
  | some bs =>
   have e : leafE 8 null false (.ofOpt (some bs)) = cntE false bs.length 2 ++ bs := by simp [leafE, Tr.ofOpt, Tr.S_oct, Tr.Z_oct]
   rw [e] at hl ⊢
   exact app_nstr (o := some bs) hown hb ho hF hl
 ·cases h
theorem av_cnstr {null : Int} (hn : 0 <= null) : AppV Try.prog 154 .pstr (leafE 8 null true) := by
 intro w F base dv out v t hown hb hr hF hl
 rcases hr with ⟨_, _, hr⟩ | ⟨h, _⟩
 ·simp only [Rep] at hr
  obtain ⟨o, ho, _, rfl⟩ := hr
  cases o with
  | none =>
   have e : leafE 8 null true (.ofOpt none) = nulE true 2 := by simp [leafE, Tr.ofOpt, Tr.Z_nul, hn]
   rw [e] at hl ⊢
   exact app_cnstr (o := none) hown hb ho hF hl
  | some bs =>
   have e : leafE 8 null true (.ofOpt (some bs)) = cntE true bs.length 2 ++ bs := by simp [leafE, Tr.ofOpt, Tr.S_oct, Tr.Z_oct]
   rw [e] at hl ⊢
   exact app_cnstr (o := some bs) hown hb ho hF hl
 ·cases h
theorem av_bytes {null : Int} (hn : null < 0) : AppV Try.prog 175 .bytes (leafE 9 null false) := by
 intro w F base dv out v t hown hb hr hF hl
 rcases hr with ⟨_, _, hr⟩ | ⟨h, _⟩
 ·simp only [Rep] at hr
  obtain ⟨bs, nl, ho, hbl, rfl⟩ := hr
  have h0 : ¬ 0 <= null := by omega
  have e : leafE 9 null false (.octs bs nl) = cntE false bs.length 4 ++ bs := by simp [leafE, Tr.S_octs, Tr.Z_octs, h0]
  rw [e] at hl ⊢
  exact app_bytes hown hb ho hbl hF hl
 ·cases h
theorem av_cbytes {null : Int} (hn : null < 0) : AppV Try.prog 174 .bytes (leafE 9 null true) := by
 intro w F base dv out v t hown hb hr hF hl
 rcases hr with ⟨_, _, hr⟩ | ⟨h, _⟩
 ·simp only [Rep] at hr
  obtain ⟨bs, nl, ho, hbl, rfl⟩ := hr
  have h0 : ¬ 0 <= null := by omega
  have e : leafE 9 null true (.octs bs nl) = cntE true bs.length 4 ++ bs := by simp [leafE, Tr.S_octs, Tr.Z_octs, h0]
  rw [e] at hl ⊢
  exact app_cbytes hown hb ho hbl hF hl
 ·cases h
theorem av_uuid {null : Int} {fl : Bool} : AppV Try.prog 150 .uuid (leafE 7 null fl) := by
 intro w F base dv out v t hown hb hr hF hl
 rcases hr with ⟨h, _⟩ | ⟨_, cs, rfl, hs, _, hr⟩
 ·simp [Ty.size] at h
 ·simp only [Rep] at hr
  obtain ⟨us, hul, hus, rfl⟩ := hr
  have e : leafE 7 null fl (.oct us) = us := by simp [leafE, Tr.S_oct]
  rw [e] at hl ⊢
  exact app_uuid hown hb hs hul hus hl
theorem av_bool {null : Int} {fl : Bool} : AppV Try.prog 170 .bool (leafE 0 null fl) := by
 intro w F base dv out v t hown hb hr hF hl
 rcases hr with ⟨_, _, hr⟩ | ⟨h, _⟩
 ·simp only [Rep] at hr
  obtain ⟨b, rfl, rfl⟩ := hr
  have e : leafE 0 null fl (.ofBool b) = [oct8 (if b then 1 else 0)] := by simp [leafE, Tr.N_ofBool]
  rw [e] at hl ⊢
  exact app_bool hown hb hl
 ·cases h
theorem ct_alen : CntC Try.prog 132 false := by
 intro w base dv out n hown hb hl
 exact app_alen hown hb (by simpa [cntE, fixedE_length] using hl)
theorem ct_calen : CntC Try.prog 131 true := by
 intro w base dv out n hown hb hl
 exact app_calen hown hb hl
end Go.Proofs.Ytmehfgiadapekaa
