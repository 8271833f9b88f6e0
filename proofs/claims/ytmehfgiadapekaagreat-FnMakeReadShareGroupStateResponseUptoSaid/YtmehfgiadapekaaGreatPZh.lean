/-
  What a field of each kind is set to (FnMake).
-/
import Derived.Test.YtmehfgiadapekaaGreatPZf
import Derived.Test.YtmehfgiadapekaaGreatPYd
set_option linter.unusedSimpArgs false
set_option linter.unusedVariables false
namespace Go.Proofs.YtmehfgiadapekaaGreat
open Go Go.RowKit
theorem tree_cells {w : World} {cs : Array Value} {y : Tr} (h : TreeI w (from' cs 0) y) (hcs : cs.size = 5) : ∃ sv lv uv f g, cs = #[.int .i64 y.N, sv, .bool y.Z, lv, uv] /\ fits .i64 y.N /\ OctI w sv y.S /\ ElemsI w lv y.L.length 5 f /\ (∀ i (h : i < y.L.length), TreeI w (f i) y.L[i]) /\
  ElemsI w uv y.U.length 2 g /\ ∀ i (h : i < y.U.length), g i 0 = .int .u32 (y.U[i]).1 /\ fits .u32 (y.U[i]).1 /\ OctI w (g i 1) (y.U[i]).2 := by
 have e := arr5 hcs
 cases h with
 | mk h0 hn h1 h2 h3 h3' h4 h4' =>
  rw [h0, h2] at e
  exact ⟨_, _, _, _, _, e, hn, h1, h3, h3', h4, h4'⟩
theorem x_strOf {P : Program} {ρ : Operand -> Value} {w : World} {d : Option Tmp} {ty : TypeId} {p : String} {af : Array Edge} {g : Option (Nat × Bool)} {x : Operand} {src dst e : Nat} {v : Value} {bs : List UInt8} (h : strBytes P dst src e = true) (hx : ρ x = v) (ho : OctI w v bs) :
  (execOp ρ ⟨d, .convert src dst x, ty, p, af, g⟩).run P w = .ok (.value (.string (str bs))) w := by
 obtain ⟨h1, h2, h3⟩ := strBytes_spec h
 have hr : (convert src dst v).run P w = .ok (.string (str bs)) w := by
  rcases ho with ⟨rfl, ao, cap, rfl⟩ | ⟨sb, off, cap, c, t, fr, rfl, q2, q3, q4, q5⟩
  ·cases ao with
   | none => exact run_convert_bytes_nil _ src e h2 h3 _ _ dst h1
   | some a => exact run_convert_bytes_back w src dst e a cap [] h2 h3 h1 (fun j hj => by simp at hj)
  ·exact run_convert_bytes_back w src dst e ⟨sb, off, none⟩ cap bs h2 h3 h1 (fun j hj => by rw [Addr.add_mid, Zc q4]; exact q5 j hj)
 simp [execOp, hx, hr]
section
variable {P : Program} {Γ : Fl} {TT t3 t4 t5 t6 tv fc : Nat} {ok : Tr -> Prop}
 {y1 y2 y3 y4 ya yb yc yd : TypeId} {p1 p2 p3 p4 : String} {e1 e2 e3 e4 : Array Edge} {ts : Array TypeId}
/-- a number -/
theorem val_num {kd : IntKind} (hf : fldOne P TT 0 0 = true) (h1 : intTy P ya .i64 = true) (h2 : intTy P yb kd = true) (hs : (Γ.free t4 && Γ.free tv) = true) :
  Val P Γ [t4, tv] [⟨some t4, .field TT (.tmp t3) 0, y1, p1, e1, none⟩, ⟨some tv, .convert ya yb (.tmp t4), y2, p2, e2, none⟩] t3 tv (.int kd) (fun y => .num (kd.wrap y.N)) (fun _ => True) := by
 intro all Q rest x a w cs y hA h3 hcs hT _ hk
 simp only [Bool.and_eq_true] at hs
 obtain ⟨sv, lv, uv, f, g, rfl, hn, _⟩ := tree_cells hT hcs
 refine Zv rfl (x_fieldO (v := .int .i64 y.N) hf (by rw [Ze]; exact h3) rfl) (Zv rfl (x_convInt (n := y.N) (k := .i64) (k' := kd) h1 h2 ?_) ?_)
 ·rw [Ze, Zq (hA.lt hs.1)]
 refine hk _ _ ((hA.put hs.1 _).put hs.2 _) (((SameBut.refl a).put (by simp) _).put (by simp) _) (.refl w) ?_
 rw [Zq (by rw [Zs]; exact hA.lt hs.2)]
 exact .inl ⟨rfl, rfl, by simp only [Rep]; exact ⟨_, rfl, fits_wrap _ _, rfl⟩⟩
/-- a number of 64 bits -/
theorem val_i64 (hf : fldOne P TT 0 0 = true) (hs : Γ.free tv = true) :
  Val P Γ [tv] [⟨some tv, .field TT (.tmp t3) 0, y1, p1, e1, none⟩] t3 tv (.int .i64) (fun y => .num (wrap64 y.N)) (fun _ => True) := by
 intro all Q rest x a w cs y hA h3 hcs hT _ hk
 obtain ⟨sv, lv, uv, f, g, rfl, hn, _⟩ := tree_cells hT hcs
 refine Zv rfl (x_fieldO (v := .int .i64 y.N) hf (by rw [Ze]; exact h3) rfl) ?_
 refine hk _ _ (hA.put hs _) ((SameBut.refl a).put (by simp) _) (.refl w) ?_
 rw [Zq (hA.lt hs)]
 exact .inl ⟨rfl, rfl, by simp only [Rep]; exact ⟨_, rfl, hn, by rw [show wrap64 y.N = y.N by have h9 := hn; simp [fits, IntKind.min, IntKind.max, IntKind.signed, IntKind.bits] at h9; simp only [wrap64]; omega]⟩⟩
/-- a function that makes a value of what a field says -/
def ValC (P : Program) (f : FuncId) (ty : Ty) (F : Tr -> Tr) (ok : Tr -> Prop) : Prop := ∀ w0 w cs y, Mod none' w0 w -> cs.size = 5 -> TreeI w0 (from' cs 0) y -> ok y -> Calls P f #[.agg cs] w fun e w' => ∃ v, e = .returned v /\ Mod none' w w' /\ RepS w' (fun k => k < w0.heap.size \/ w.heap.size <= k) ty v (F y)
theorem val_call {ty : Ty} {F : Tr -> Tr} (hc : ValC P fc ty F ok) (hb : bodied P fc = true) (hs : Γ.free tv = true) :
  Val P Γ [tv] [⟨some tv, .call ⟨.value (.func fc), #[.tmp t3], ts⟩, y1, p1, e1, none⟩] t3 tv ty F ok := by
 intro all Q rest x a w cs y hA h3 hcs hT hok hk
 have ee : (#[Operand.tmp t3] : Array Operand).map a.eval = #[.agg cs] := by simp [Ze, h3]
 refine wpl_call rfl (Zy hb rfl) (by rw [ee]; exact hc x.w0 w cs y hA.mod hcs hT hok) ?_
 rintro e w' ⟨v, rfl, hm, hr⟩
 refine ⟨v, rfl, hk _ _ ((hA.new hm).put hs _) ((SameBut.refl a).put (by simp) _) hm ?_⟩
 rw [Zq (hA.lt hs)]
 exact hr
/-- sixteen octets -/
def SixC (P : Program) (f : FuncId) : Prop := ∀ w0 w v bs, Mod none' w0 w -> OctI w0 v bs -> Calls P f #[v] w fun e w' => ∃ cs : Array Value, e = .returned (.agg cs) /\ Mod none' w w' /\ cs.size = 16 /\ ∀ i (h : i < (uu bs).length), cs[i]? = some (.int .u8 ((uu bs)[i]).toNat)
theorem val_uuid (hf : fldOne P TT 1 1 = true) (hc : SixC P fc) (hb : bodied P fc = true) (hs : (Γ.free t4 && Γ.free tv) = true) :
  Val P Γ [t4, tv] [⟨some t4, .field TT (.tmp t3) 1, y1, p1, e1, none⟩, ⟨some tv, .call ⟨.value (.func fc), #[.tmp t4], ts⟩, y2, p2, e2, none⟩] t3 tv .uuid (fun y => .oct (uu y.S)) (fun _ => True) := by
 intro all Q rest x a w cs y hA h3 hcs hT hok hk
 simp only [Bool.and_eq_true] at hs
 obtain ⟨sv, lv, uv, f, g, rfl, hn, hS, _⟩ := tree_cells hT hcs
 refine Zv rfl (x_fieldO (v := sv) hf (by rw [Ze]; exact h3) rfl) ?_
 have g4 : Act.get (a.put (some t4) sv) t4 = sv := Zq (hA.lt hs.1)
 have ee : (#[Operand.tmp t4] : Array Operand).map (a.put (some t4) sv).eval = #[sv] := by simp [Ze, g4]
 refine wpl_call rfl (Zy hb rfl) (by rw [ee]; exact hc x.w0 w sv _ hA.mod hS) ?_
 rintro e w' ⟨us, rfl, hm, hus, hu⟩
 refine ⟨_, rfl, hk _ _ (((hA.put hs.1 _).new hm).put hs.2 _) (((SameBut.refl a).put (by simp) _).put (by simp) _) hm ?_⟩
 rw [Zq (by rw [Zs]; exact hA.lt hs.2)]
 have hl := uu_length y.S
 refine .inr ⟨us, rfl, hus, ?_, ?_⟩
 ·rw [Array.all_eq_true]
  intro i hi
  have := hu i (by omega)
  rw [Array.getElem?_eq_getElem hi] at this
  have e : us[i] = .int .u8 ((uu y.S)[i]'(by omega)).toNat := by simpa using this
  rw [e]; rfl
 ·simp only [Rep]
  refine ⟨uu y.S, hl, fun i hi => ?_, rfl⟩
  have := hu i hi
  simp [from', this]
end
theorem zero16 : zeroOf Tryz.prog 78 = some (.agg (Array.replicate 16 (.int .u8 0))) := by kernel_rfl
theorem arr16_u8 : arr16 Tryz.prog 78 5 = true := by kernel_rfl
set_option maxRecDepth 100000 in
theorem sixteen_c : SixC Tryz.prog 74 := by
 intro w0 w v bs hm0 ho
 refine calls_of_wp Tryz.func74 rfl ?_
 rw [Tryz.ntmps74]
 refine wp_act (fun a : Act => Act.get a 0 = v /\ a.tmps.size = 7 /\ a.defers = []) ⟨by rw [Zj _ _ _ (by simp)]; rfl, by simp, rfl⟩ ?_
 rintro a ⟨a0, aN, ad⟩
 refine wp_seq (wp_region_lit (Zv rfl (x_alloc zero16) (wpList_nil ?_)))
 obtain ⟨b2, hb2⟩ : ∃ b, b = w.heap.size := ⟨_, rfl⟩
 have r1 := Zh w (.cells (Value.agg (Array.replicate 16 (.int .u8 0))).cells 78)
 have m1 : Mod none' w (w.alloc (.cells (Value.agg (Array.replicate 16 (.int .u8 0))).cells 78)) := (Mod.refl w).alloc _
 generalize w.alloc (.cells (Value.agg (Array.replicate 16 (.int .u8 0))).cells 78) = w1 at *
 rw [<- hb2] at r1 ⊢
 replace r1 : w1.heap[b2]? = some (.cells (Array.replicate 16 (.int .u8 0)) 78 (0, 0)) := r1
 have hoI : OctI w1 v bs := (ho.mod hm0).mod m1
 refine wp_seq (wp_region_lit (Zv rfl (x_sliceArr arr16_u8 (b := b2) (o := 0) ?_) (Zv rfl Zm ?_)))
 ·simp (disch := first | omega | simp only [Zs]; omega) only [Zo, Ze, Zn, Zq]
 refine wpl_abs (fun b : Act => Act.get b 2 = .pointer (some ⟨b2, 0, none⟩) /\ Act.get b 3 = .slice (some ⟨b2, 0, none⟩) 16 16 /\ Act.get b 4 = v /\ b.tmps.size = 7 /\ b.defers = []) ⟨?_, ?_, ?_, ?_, ?_⟩ ?_
 ·simp (disch := first | omega | simp only [Zs]; omega) only [Zo, Ze, Zn, Zq]
 ·simp (disch := first | omega | simp only [Zs]; omega) only [Zo, Ze, Zn, Zq]
 ·simp (disch := first | omega | simp only [Zs]; omega) only [Zo, Ze, Zn, Zq, a0]
 ·simp only [Zs]; exact aN
 ·simp only [Zd]; exact ad
 clear a0 aN ad a
 rintro a ⟨a2, a3, a4, aN, ad⟩
 obtain ⟨cs, hcs⟩ : ∃ cs, cs = octV (bs.take 16) := ⟨_, rfl⟩
 have hcl : cs.length = (bs.take 16).length := by rw [hcs, octV_length]
 have hcl16 : (bs.take 16).length = min bs.length 16 := by simp; omega
 have hrun : ∃ n, (execOp a.eval ⟨some 5, .call ⟨.builtin .copy, #[.tmp 3, .tmp 4], #[22, 22]⟩, 3, "", #[], none⟩).run Tryz.prog w1 = .ok (.value (goInt n)) (w1.setCells b2 0 cs) := by
  obtain ⟨hu, i, z, hi, hz, h2, _⟩ := elemInfo_spec octs_info
  have hsz : (Tryz.prog.info? 5).map (·.size) = some 1 := by simp [hi, h2]
  have hc : ∀ j, j < cs.length -> (w1.cell? ⟨b2, 0 + j, none⟩).isSome = true := fun j hj => by rw [Zc r1]; simp; omega
  have hf : ∀ j, j < cs.length -> w1.frozen? ⟨b2, 0 + j, none⟩ = false := fun j _ => Zz r1
  have h1 : ∀ u ∈ cs, u.oneCell' = true := fun u hu => by rw [hcs] at hu; obtain ⟨q, _, rfl⟩ := List.mem_map.1 hu; rfl
  rcases hoI with ⟨rfl, ao, cap, hv⟩ | ⟨sb, off, cap, c, t, fr, hv, q2, q3, q4, q5⟩
  ·have hcs0 : cs = [] := by rw [hcs]; rfl
   subst hcs0
   cases ao with
   | none =>
    refine ⟨0, ?_⟩
    have h := run_copy_none (P := Tryz.prog) w1 22 22 3 5 (some ⟨b2, 0, none⟩) none 16 16 0 cap hu hsz (by simp [Nat.min_def])
    simp [execOp, resolve, invoke, builtin, Ze, a3, a4, hv, h, World.setCells]
   | some ad' =>
    refine ⟨0, ?_⟩
    have h := run_copy_cells (P := Tryz.prog) w1 22 22 3 5 b2 0 16 16 ad' 0 cap [] hu hsz (by simp [Nat.min_def]) (fun j v hv => by simp at hv) hc hf h1
    simp [execOp, resolve, invoke, builtin, Ze, a3, a4, hv, h]
  ·refine ⟨cs.length, ?_⟩
   have h := run_copy_cells (P := Tryz.prog) w1 22 22 3 5 b2 0 16 16 ⟨sb, off, none⟩ bs.length cap cs hu hsz (by rw [hcl, hcl16]) (fun j v hv => by
    rw [Addr.add_mid, Zc q4]
    rw [hcs] at hv
    simp only [octV, List.getElem?_map, Option.map_eq_some_iff] at hv
    obtain ⟨q, hq, rfl⟩ := hv
    rw [List.getElem?_take] at hq
    split at hq
    ·obtain ⟨hj, rfl⟩ := List.getElem?_eq_some_iff.1 hq
     exact q5 j hj
    ·cases hq) hc hf h1
   simp [execOp, resolve, invoke, builtin, Ze, a3, a4, hv, h]
 obtain ⟨n, hrun⟩ := hrun
 refine Zv rfl hrun (wpList_nil ?_)
 obtain ⟨C', g1, g2, g3, g4⟩ := heap_setCells (w := w1) cs 0 _ r1
 have m2 := mod_setCells b2 w1 0 cs
 have m12 : Mod none' w (w1.setCells b2 0 cs) := m1.trans' m2 (fun _ _ f => f) (fun j hj e => by have e' : j = b2 := e; omega)
 generalize w1.setCells b2 0 cs = w2 at *
 have hC16 : C'.size = 16 := by rw [g2]; simp
 refine wp_seq (wp_region_lit (Zv rfl (x_loadN (cs := C'.toList) (b := b2) (o := 0) (by rw [Array.length_toList, hC16]; kernel_rfl) ?_ (fun j v hv => by rw [Zc g1, Nat.zero_add]; simpa using hv)) ?_))
 ·simp (disch := first | omega | simp only [Zs]; omega) only [Zo, Ze, Zn, Zq, a2]
 have hval : ∀ i (h : i < (uu bs).length), C'[i]? = some (.int .u8 ((uu bs)[i]).toNat) := by
  intro i hi
  rw [uu_length] at hi
  by_cases hlt : i < (bs.take 16).length
  ·have := g3 i (by omega) (by simp; omega)
   rw [Nat.zero_add] at this
   rw [this]
   have e : cs[i]'(by omega) = .int .u8 ((bs.take 16)[i]).toNat := by simp [hcs, octV]
   rw [e]
   simp only [uu, List.getElem_append, hlt, dif_pos]
  ·rw [g4 i (by omega)]
   simp only [uu, List.getElem_append, hlt, dif_neg, not_false_iff]
   simp [hi]
 have hall : C'.all (·.oneCell') = true := by
  rw [Array.all_eq_true]
  intro i hi
  have := hval i (by rw [uu_length]; omega)
  rw [Array.getElem?_eq_getElem hi] at this
  have e : C'[i] = .int .u8 ((uu bs)[i]'(by rw [uu_length]; omega)).toNat := by simpa using this
  rw [e]; rfl
 refine wpl_skip rfl (x_storeN (cs := C') (b := b2) (o := 0) (by rw [hC16]; kernel_rfl) ?_ ?_ hall ?_) (wpList_nil ?_)
 ·simp (disch := first | omega | simp only [Zs]; omega) only [Zo, Ze, Zn, Zq, a2]
 ·simp (disch := first | omega | simp only [Zs]; omega) only [Zo, Ze, Zn, Zq]
 ·intro j hj
  rw [Zc g1, Zz g1, Nat.zero_add, Array.getElem?_eq_getElem hj]
  exact ⟨rfl, rfl⟩
 have k2 := put_tree (cs := C') g1 rfl
 have m3 := mod_setCells b2 w2 0 C'.toList
 have m13 : Mod none' w (w2.setCells b2 0 C'.toList) := m12.trans' m3 (fun _ _ f => f) (fun j hj e => by have e' : j = b2 := e; omega)
 generalize w2.setCells b2 0 C'.toList = w3 at *
 refine wp_ret (bodyPost_ret (results_cellN rfl (b := b2) (o := 0) (cs := C'.toList) ?_ (by rw [Array.length_toList, hC16]; kernel_rfl) (fun j v hv => by rw [Zc k2, Nat.zero_add]; simpa using hv)) ?_ ⟨_, rfl, m13, by simpa using hC16, fun i hi => by simpa using hval i hi⟩)
 ·show Act.get _ 2 = _
  simp (disch := first | omega | simp only [Zs]; omega) only [Zo, Ze, Zn, Zq, a2]
 ·simp only [Zd]; exact ad
/-- what a tree's box bears -/
theorem box_tree {w : World} {cs : Array Value} (T : TypeId) : (w.alloc (.cells (Value.agg cs).cells T)).heap[w.heap.size]? = some (.cells cs T (0, 0)) /\ Mod none' w (w.alloc (.cells (Value.agg cs).cells T)) := ⟨Zh w _, (Mod.refl w).alloc _⟩
set_option maxRecDepth 100000 in
theorem textOf_c : ValC Tryz.prog 89 .pstr (fun y => if y.Z = true then .nul else .oct y.S) (fun y => y.S.length <= 32767) := by
 intro w0 w cs y hm0 hcs hT hok
 obtain ⟨sv, lv, uv, f, g, rfl, hn, hS, _⟩ := tree_cells hT hcs
 obtain ⟨yN, hyN⟩ : ∃ n, n = y.N := ⟨_, rfl⟩
 obtain ⟨yZ, hyZ⟩ : ∃ n, n = y.Z := ⟨_, rfl⟩
 rw [<- hyZ, <- hyN]
 refine calls_of_wp Tryz.func89 rfl ?_
 rw [Tryz.ntmps89]
 refine wp_act (fun a : Act => Act.get a 0 = .agg #[.int .i64 yN, sv, .bool yZ, lv, uv] /\ a.tmps.size = 9 /\ a.defers = []) ⟨by rw [Zj _ _ _ (by simp)]; rfl, by simp, rfl⟩ ?_
 rintro a ⟨a0, aN, ad⟩
 refine wp_seq (wp_region_lit (Zv rfl x_box (Zv rfl Zi (wpList_nil ?_))))
 rw [show a.eval (.tmp 0) = .agg #[.int .i64 yN, sv, .bool yZ, lv, uv] from a0]
 obtain ⟨r1, m1⟩ := box_tree (w := w) (cs := #[.int .i64 yN, sv, .bool yZ, lv, uv]) 39
 generalize w.alloc (.cells (Value.agg #[.int .i64 yN, sv, .bool yZ, lv, uv]).cells 39) = w1 at *
 obtain ⟨b1, hb1⟩ : ∃ b, b = w.heap.size := ⟨_, rfl⟩
 rw [<- hb1] at r1 ⊢
 have hS1 : OctI w1 sv y.S := (hS.mod hm0).mod m1
 refine wp_act (fun a : Act => Act.get a 1 = .pointer (some ⟨b1, 0, none⟩) /\ a.tmps.size = 9 /\ a.defers = []) ⟨?_, ?_, ?_⟩ ?_
 ·simp (disch := first | omega | simp only [Zs]; omega) only [Zo, Ze, Zn, Zq]
 ·simp only [Zs]; exact aN
 ·simp only [Zd]; exact ad
 clear a0 aN ad a
 rintro a ⟨a1, aN, ad⟩
 refine wp_seq (wp_seq (wp_region_lit (Zv rfl (Za (o := 2) (by kernel_rfl) (b := b1) (o0 := 0) ?_) (Zv rfl (Zl (by kernel_rfl) (b := b1) (o := 0 + 2) (v := .bool yZ) ?_ ?_) (wpList_nil ?_)))))
 ·rw [Ze, a1]
 ·simp (disch := first | omega | simp only [Zs]; omega) only [Zo, Ze, Zn, Zq]
 ·rw [Zc r1]; rfl
 cases hz : yZ with
 | true =>
  refine wp_cond_true ?_ (wp_seq (wp_region_lit (Zv rfl Zi (wpList_nil ?_))))
  ·simp (disch := first | omega | simp only [Zs]; omega) only [Zo, Ze, Zn, Zq, hz]
  refine wp_act (c := .ret) (fun b : Act => Act.get b 2 = .pointer none /\ b.defers = []) ⟨?_, ?_⟩ ?_
  ·simp (disch := first | omega | simp only [Zs]; omega) only [Zo, Ze, Zn, Zq]
   rfl
  ·simp only [Zd]; exact ad
  rintro b ⟨z0, zd⟩
  refine wp_ret ?_
  simp only [Exit.then]
  refine bodyPost_ret (results_tmp rfl _ _ _) zd ⟨_, congrArg Ending.returned z0, m1, .inl ⟨rfl, rfl, ?_⟩⟩
  rw [if_pos (by rw [<- hyZ, hz])]
  simp only [Rep]
  exact ⟨none, rfl, fun bs h => (by cases h), rfl⟩
 | false =>
  refine wp_cond_false ?_ (wp_skip ?_)
  ·simp (disch := first | omega | simp only [Zs]; omega) only [Zo, Ze, Zn, Zq, hz]
  simp only [Exit.then]
  obtain ⟨z, hz0, hzc⟩ : ∃ z : Value, zeroOf Tryz.prog 9 = some z /\ z.cells.size = 1 := ⟨.string ByteArray.empty, by kernel_rfl, rfl⟩
  refine wp_seq (wp_region_lit (Zv rfl (Za (o := 1) (by kernel_rfl) (b := b1) (o0 := 0) ?_) (Zv rfl (Zl (by kernel_rfl) (b := b1) (o := 0 + 1) (v := sv) ?_ ?_) (Zv rfl (x_strOf (e := 5) (by kernel_rfl) (v := sv) (bs := y.S) ?_ hS1) (Zv rfl (x_alloc hz0) ?_)))))
  ·simp (disch := first | omega | simp only [Zs]; omega) only [Zo, Ze, Zn, Zq, a1]
  ·simp (disch := first | omega | simp only [Zs]; omega) only [Zo, Ze, Zn, Zq]
  ·rw [Zc r1]; rfl
  ·simp (disch := first | omega | simp only [Zs]; omega) only [Zo, Ze, Zn, Zq]
  have r2 := Zh w1 (.cells z.cells 9)
  have m2 : Mod none' w1 (w1.alloc (.cells z.cells 9)) := (Mod.refl w1).alloc _
  generalize w1.alloc (.cells z.cells 9) = w2 at *
  obtain ⟨kb, hkb⟩ : ∃ b, b = w1.heap.size := ⟨_, rfl⟩
  rw [<- hkb] at r2 ⊢
  have hm1s := m1.size
  refine wpl_skip rfl (x_store1 (by kernel_rfl) (b := kb) (o := 0) (v := .string (str y.S)) (u := z.cells[0]'(by omega)) ?_ ?_ rfl (by rw [Zc r2, Array.getElem?_eq_getElem (by omega)]) (Zz r2)) (wpList_nil ?_)
  ·simp (disch := first | omega | simp only [Zs]; omega) only [Zo, Ze, Zn, Zq]
  ·simp (disch := first | omega | simp only [Zs]; omega) only [Zo, Ze, Zn, Zq]
  have r3 := heap_setCell_same (o := 0) r2 (.string (str y.S))
  have m3 : Mod (only kb) w2 (w2.setCell ⟨kb, 0, none⟩ (.string (str y.S))) := (Mod.refl w2).put _ _
  have hC : z.cells.setIfInBounds 0 (.string (str y.S)) = #[.string (str y.S)] := by
   apply Array.ext
   ·simpa using hzc
   ·intro i h1 h2
    have : i = 0 := by simp at h2; omega
    subst this; simp
  rw [hC] at r3
  generalize w2.setCell ⟨kb, 0, none⟩ (.string (str y.S)) = w3 at *
  have m13 : Mod none' w w3 := (m1.trans m2).trans' m3 (fun _ _ f => f) (fun j hj e => by have e' : j = kb := e; omega)
  refine wp_seq (wp_region_lit (Zv rfl Zi (wpList_nil ?_)))
  refine wp_act (c := .ret) (fun b : Act => Act.get b 2 = .pointer (some ⟨kb, 0, none⟩) /\ b.defers = []) ⟨?_, ?_⟩ ?_
  ·simp (disch := first | omega | simp only [Zs]; omega) only [Zo, Ze, Zn, Zq]
  ·simp only [Zd]; exact ad
  rintro b ⟨z0, zd⟩
  refine wp_ret ?_
  refine bodyPost_ret (results_tmp rfl _ _ _) zd ⟨_, congrArg Ending.returned z0, m13, .inl ⟨rfl, rfl, ?_⟩⟩
  rw [if_neg (by rw [<- hyZ, hz]; decide)]
  simp only [Rep]
  exact ⟨some y.S, ⟨kb, _, .inr (by omega), rfl, r3⟩, fun bs h => by cases h; omega, rfl⟩
end Go.Proofs.YtmehfgiadapekaaGreat
