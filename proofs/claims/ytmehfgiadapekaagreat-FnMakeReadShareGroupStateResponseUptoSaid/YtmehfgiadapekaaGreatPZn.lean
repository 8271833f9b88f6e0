/-
  Rules for the code that sets a message's fields (FnMake): lists, tags, one field after another, the whole.
-/
import Derived.Test.YtmehfgiadapekaaGreatPZm
set_option linter.unusedSimpArgs false
set_option linter.unusedVariables false
namespace Go.Proofs.YtmehfgiadapekaaGreat
open Go Go.RowKit
/-- a loop that counts -/
theorem wp_for2 {P : Program} {Q : Exit -> Act -> World -> Prop} {a : Act} {w : World} {b0 b1 t : Nat} {ct body inc : Code}
  (I J K : Nat -> Act -> World -> Prop) (n : Nat) (h0 : I n a w)
  (ht : ∀ m a w, I m a w -> ct.wp P (fun e a' w' => e = .normal /\ ((∃ m', m = m' + 1 /\ Act.get a' t = .bool true /\ J m' a' w') \/ (Act.get a' t = .bool false /\ Q .normal a' w'))) a w)
  (hbd : ∀ m a w, J m a w -> body.wp P (fun e a' w' => e = .normal /\ K m a' w') a w)
  (hi : ∀ m a w, K m a w -> inc.wp P (fun e a' w' => e = .normal /\ I m a' w') a w) :
  (Code.block b0 (.loop (.seq ct (.seq (.cond (.tmp t) .skip (.exit b0)) (.seq (.block b1 body) inc))))).wp P Q a w := by
 refine wp_block (wp_loop_ghost I n h0 ?_)
 intro m a w hI
 refine wp_seq (wp_mono (ht m a w hI) ?_)
 rintro e a1 w1 ⟨rfl, h⟩
 rcases h with ⟨m', rfl, hb1, hJ⟩ | ⟨hb1, hQ⟩
 ·refine wp_seq (wp_cond_true (by rw [Ze]; exact hb1) (wp_skip ?_))
  refine wp_seq (wp_block (wp_mono (hbd m' a1 w1 hJ) ?_))
  rintro e a2 w2 ⟨rfl, h2⟩
  exact wp_mono (hi m' a2 w2 h2) (by rintro e a3 w3 ⟨rfl, h3⟩; exact ⟨m', Nat.lt_succ_self _, h3⟩)
 ·refine wp_seq (wp_cond_false (by rw [Ze]; exact hb1) (wp_exit ?_))
  simp [Exit.then, Exit.inBlock]
  exact hQ
theorem set_again {α : Type} {l : List α} {i : Nat} {a : α} (h : l[i]? = some a) : l.set i a = l := by
 apply List.ext_getElem?
 intro j
 by_cases hj : i = j
 ·subst hj
  rw [h, List.getElem?_set_self (List.getElem?_eq_some_iff.1 h).1]
 ·rw [List.getElem?_set_ne hj]
section
variable {P : Program} {Γ : Fl} {σ : St} {i j o k sz e T TT LT L5 fat bx t1 t2 t3 t4 u1 u2 ul un ui uc v1 v2 x1 i0 i1 i2 i3 i4 b0 b1 : Nat} {ety : Ty} {E : Tr -> Tr} {oke : Tr -> Prop} {cm ca : Code}
 {y1 y2 y3 y4 y5 y6 y7 y8 y9 y10 y11 y12 y13 y14 y15 y16 ya yb yc yd yf : TypeId} {p1 p2 p3 p4 p5 p6 p7 p8 p9 p10 p11 p12 p13 p14 p15 p16 : String} {e1 e2 e3 e4 e5 e6 e7 e8 e9 e10 e11 e12 e13 e14 e15 e16 : Array Edge} {ts ts2 ts3 : Array TypeId}
set_option maxHeartbeats 1000000 in
/-- 'if !at(t, j).Null { v.F = make(..); for _, x := range at(t, j).L { v.F = append(v.F, ..) } }' -/
theorem fst_list (hat' : AtC P fat) (hbd : bodied P fat = true) (hmT : many P TT 5 = true) (h2f : fldOne P TT 2 2 = true) (h3f : fldOne P TT 3 3 = true) (h5 : elemSize P L5 = some 5) (hts : ts3[0]? = some L5) (hsT : sized P TT 5 = true) (hzT : zeroOf P TT = some (.agg #[.int .i64 0, .slice none 0 0, .bool false, .slice none 0 0, .slice none 0 0]))
  (hmk : MkC P Γ σ cm i j o ety sz e) (hap : AppE P Γ σ ca bx o ety sz e E oke) (hr : ety.ok = true) (hsz : ety.size = sz) (hat : σ.lay.at i = some (o, .list ety sz)) (hok : σ.okAt i o (.list ety sz) = true)
  (hs : (Γ.free t1 && Γ.free t2 && Γ.free t3 && Γ.free t4 && Γ.free u1 && Γ.free u2 && Γ.free ul && Γ.free un && Γ.free ui && Γ.free uc && Γ.free v1 && Γ.free v2 && Γ.free bx && Γ.free x1 && decide ([ul, un, ui, uc, v1, v2, bx, x1] : List Nat).Nodup && decide (ul ∉ writes ca) && decide (un ∉ writes ca) && decide (ui ∉ writes ca)) = true) :
  Fst P Γ σ (.seq (.region i0 #[⟨some t1, .load TT (.tmp Γ.tb), y1, p1, e1, none⟩, ⟨some t2, .call ⟨.value (.func fat), #[.tmp t1, .const (.int .i64 (j : Nat))], ts⟩, y2, p2, e2, none⟩, ⟨some t3, .field TT (.tmp t2) 2, y3, p3, e3, none⟩, ⟨some t4, .unOp .not ya (.tmp t3), y4, p4, e4, none⟩] false)
   (.cond (.tmp t4) (.seq cm (.seq (.region i1 #[⟨some u1, .load TT (.tmp Γ.tb), y5, p5, e5, none⟩, ⟨some u2, .call ⟨.value (.func fat), #[.tmp u1, .const (.int .i64 (j : Nat))], ts2⟩, y6, p6, e6, none⟩, ⟨some ul, .field TT (.tmp u2) 3, y7, p7, e7, none⟩, ⟨some un, .call ⟨.builtin .len, #[.tmp ul], ts3⟩, y8, p8, e8, none⟩, ⟨some ui, .move (.const (.int .i64 0)), y9, p9, e9, none⟩] false)
    (.block b0 (.loop (.seq (.region i2 #[⟨some uc, .binOp .lss yb (.tmp ui) (.tmp un) yc, y10, p10, e10, none⟩] false) (.seq (.cond (.tmp uc) .skip (.exit b0))
     (.seq (.block b1 (.seq (.region i3 #[⟨some v1, .indexAddr L5 (.tmp ul) (.tmp ui), y11, p11, e11, none⟩, ⟨some v2, .load TT (.tmp v1), y12, p12, e12, none⟩, ⟨some bx, .alloc TT, y13, p13, e13, none⟩, ⟨none, .store TT (.tmp bx) (.tmp v2), y14, p14, e14, none⟩] false) ca))
      (.region i4 #[⟨some x1, .binOp .add yd (.tmp ui) (.const (.int .i64 1)) yf, y15, p15, e15, none⟩, ⟨some ui, .move (.tmp x1), y16, p16, e16, none⟩] false)))))))) .skip)) i .nul
   (fun g => if (g.L.getD j .zero).Z = true then .nul else .list ((g.L.getD j .zero).L.map E) false) (fun g => (g.L.getD j .zero).L.length <= 32767 /\ ∀ x ∈ (g.L.getD j .zero).L, oke x) := by
 intro x v a w hA hC hz ⟨hlen, hall⟩
 simp only [Bool.and_eq_true, decide_eq_true_eq] at hs
 obtain ⟨⟨⟨⟨⟨⟨⟨⟨⟨⟨⟨⟨⟨⟨⟨⟨⟨f1, f2⟩, f3⟩, f4⟩, g1⟩, g2⟩, gl⟩, gn⟩, gi⟩, gc⟩, gv1⟩, gv2⟩, gbx⟩, gx1⟩, hnd⟩, wl⟩, wn⟩, wi⟩ := hs
 simp only [List.nodup_cons, List.mem_cons, List.not_mem_nil, or_false, not_or, not_false_eq_true, List.nodup_nil, and_true] at hnd
 obtain ⟨⟨lan, lai, lac, lav1, lav2, labx, lax1⟩, ⟨nai, nac, nav1, nav2, nabx, nax1⟩, ⟨iac, iav1, iav2, iabx, iax1⟩, ⟨cav1, cav2, cabx, cax1⟩, ⟨v1v2, v1bx, v1x1⟩, ⟨v2bx, v2x1⟩, bxx1⟩ := hnd
 obtain ⟨yj, hyj⟩ : ∃ y, y = x.g.L.getD j .zero := ⟨_, rfl⟩
 show Code.wp P _ (fun e' a' w' => e' = .normal /\ FA Γ x a' w' /\ Cur σ x.F x.blk 0 (v.1.set i (if (x.g.L.getD j .zero).Z = true then .nul else .list ((x.g.L.getD j .zero).L.map E) false), v.2) w') a w
 rw [<- hyj] at hlen hall ⊢
 -- whether it is null
 obtain ⟨T0, hb0⟩ := hA.hb
 refine wp_seq (wp_region_lit (Zv rfl (x_loadN (cs := x.ct.toList) (b := x.tblk) (o := 0) (by rw [Array.length_toList, hA.ct]; exact hmT) (by rw [Ze, hA.tree]) (fun j v hv => by rw [Zc hb0, Nat.zero_add]; simpa using hv)) ?_))
 have hA2 := hA.put f1 (.agg x.ct.toList.toArray)
 have q2 : Act.get (a.put (some t1) (.agg x.ct.toList.toArray)) t1 = .agg x.ct := by rw [Zq (hA.lt f1)]
 generalize a.put (some t1) (.agg x.ct.toList.toArray) = a2 at *
 have ee : (#[Operand.tmp t1, .const (.int .i64 (j : Nat))] : Array Operand).map a2.eval = #[.agg x.ct, .int .i64 (j : Nat)] := by
  simp [Ze, q2]; rfl
 refine wpl_call rfl (Zy hbd rfl) (by rw [ee]; exact hat' hA.mod hA.ct hA.tr) ?_
 rintro e' w1 ⟨m1, cs, rfl, hcs, hT⟩
 rw [<- hyj] at hT
 obtain ⟨sv, lv, uv, f, g, rfl, hn, hS, hL, hLs, _⟩ := tree_cells hT hcs
 refine ⟨_, rfl, Zv rfl (x_fieldO (v := .bool yj.Z) h2f (by rw [Ze, Zq (hA2.lt f2)]) rfl) (Zv rfl (x_notV (b := yj.Z) (c := !yj.Z) ?_ rfl) (wpList_nil ?_))⟩
 ·rw [Ze, Zq (by rw [Zs]; exact hA2.lt f3)]
 refine wp_act (fun b : Act => FA Γ x b w1 /\ Act.get b t4 = .bool (!yj.Z)) ⟨(((hA2.new m1).put f2 _).put f3 _).put f4 _, ?_⟩ ?_
 ·rw [Zq (by simp only [Zs]; exact hA2.lt f4)]
 rintro b ⟨hB, b4⟩
 have hC1 : Cur σ x.F x.blk 0 v w1 := hC.later m1 (fun f => f) (fun _ _ f => f)
 cases hyz : yj.Z with
 | true =>
  refine wp_cond_false (by rw [Ze, b4, hyz]; rfl) (wp_skip ⟨rfl, hB, ?_⟩)
  rw [if_pos rfl, set_again hz]
  exact hC1
 | false =>
  refine wp_cond_true (by rw [Ze, b4, hyz]; rfl) (wp_seq (wp_mono (hmk x v b w1 hB hC1 hz (by rw [<- hyj]; exact hlen)) ?_))
  rintro e' a3 w3 ⟨rfl, B, hL3⟩
  rw [if_neg (by simp)]
  clear b4 hB
  have hA3 := hL3.fa
  obtain ⟨T3, hb3⟩ := hA3.hb
  refine wp_seq (wp_region_lit (Zv rfl (x_loadN (cs := x.ct.toList) (b := x.tblk) (o := 0) (by rw [Array.length_toList, hA3.ct]; exact hmT) (by rw [Ze, hA3.tree]) (fun j v hv => by rw [Zc hb3, Nat.zero_add]; simpa using hv)) ?_))
  have hL4 := hL3.put g1 (.agg x.ct.toList.toArray)
  have q4 : Act.get (a3.put (some u1) (.agg x.ct.toList.toArray)) u1 = .agg x.ct := by rw [Zq (hA3.lt g1)]
  generalize a3.put (some u1) (.agg x.ct.toList.toArray) = a4 at *
  have ee4 : (#[Operand.tmp u1, .const (.int .i64 (j : Nat))] : Array Operand).map a4.eval = #[.agg x.ct, .int .i64 (j : Nat)] := by
   simp [Ze, q4]; rfl
  refine wpl_call rfl (Zy hbd rfl) (by rw [ee4]; exact hat' hA3.mod hA3.ct hA3.tr) ?_
  rintro e' w4 ⟨m4, cs4, rfl, hcs4, hT4⟩
  rw [<- hyj] at hT4
  obtain ⟨sv4, lv4, uv4, f4', g4', rfl, hn4, hS4, hE4, hLs4, _⟩ := tree_cells hT4 hcs4
  have hL5 := hL4.new hr hsz m4
  obtain ⟨ao, cap, hlv⟩ := hE4.slice
  have hA4 := hL4.fa
  refine ⟨_, rfl, Zv rfl (x_fieldO (v := lv4) h3f (by rw [Ze, Zq (hA4.lt g2)]) rfl) (Zv rfl (x_len (by rw [h5]; rfl) hts (ao := ao) (cap := cap) (n := yj.L.length) ?_) (Zv rfl Zm (wpList_nil ?_)))⟩
  ·rw [Ze, Zq (by rw [Zs]; exact hA4.lt gl), hlv]
  refine wp_act (fun b : Act => LS Γ σ x o ety sz e B v b w4 [] /\ Act.get b ul = lv4 /\ Act.get b un = .int .i64 (yj.L.length : Nat) /\ Act.get b ui = .int .i64 (0 : Nat)) ⟨(((hL5.put g2 _).put gl _).put gn _).put gi _, ?_, ?_, ?_⟩ ?_
  ·rw [Zn (Ne.symm lai), Zn (Ne.symm lan), Zq (by simp only [Zs]; exact hA4.lt gl)]
  ·rw [Zn (Ne.symm nai), Zq (by simp only [Zs]; exact hA4.lt gn)]
  ·rw [Zq (by simp only [Zs]; exact hA4.lt gi)]; rfl
  clear hL5 hL4 hA4 q4 ee4 hA3 hL3
  rintro a5 ⟨hL5, s1, s2, s3⟩
  refine wp_for2
   (I := fun m a w => ∃ q, q + m = yj.L.length /\ LS Γ σ x o ety sz e B v a w ((yj.L.take q).map E) /\ Act.get a ul = lv4 /\ Act.get a un = .int .i64 (yj.L.length : Nat) /\ Act.get a ui = .int .i64 (q : Nat))
   (J := fun m a w => ∃ q, q + (m + 1) = yj.L.length /\ LS Γ σ x o ety sz e B v a w ((yj.L.take q).map E) /\ Act.get a ul = lv4 /\ Act.get a un = .int .i64 (yj.L.length : Nat) /\ Act.get a ui = .int .i64 (q : Nat))
   (K := fun m a w => ∃ q, q + (m + 1) = yj.L.length /\ LS Γ σ x o ety sz e B v a w ((yj.L.take (q + 1)).map E) /\ Act.get a ul = lv4 /\ Act.get a un = .int .i64 (yj.L.length : Nat) /\ Act.get a ui = .int .i64 (q : Nat)) yj.L.length ?_ ?_ ?_ ?_
  ·exact ⟨0, by omega, by simpa using hL5, s1, s2, s3⟩
  ·rintro m a6 w6 ⟨q, hq, hL6, r1, r2, r3⟩
   have hA6 := hL6.fa
   refine wp_region_lit (Zv rfl (x_lss (k := .i64) (m := (q : Nat)) (n := (yj.L.length : Nat)) (by rw [Ze, r3]) (by rw [Ze, r2])) (wpList_nil ⟨rfl, ?_⟩))
   rw [Zq (hA6.lt gc)]
   cases m with
   | zero =>
    right
    have hqe : q = yj.L.length := by omega
    refine ⟨by congr 1; simp; omega, rfl, hL6.fa.put gc _, ?_⟩
    rw [hqe, List.take_length] at hL6
    exact hL6.fin hr hsz hat hok (by simp; omega)
   | succ m =>
    left
    refine ⟨m, rfl, by congr 1; simp; omega, q, by omega, hL6.put gc _, ?_, ?_, ?_⟩
    ·rw [Zn (Ne.symm lac), r1]
    ·rw [Zn (Ne.symm nac), r2]
    ·rw [Zn (Ne.symm iac), r3]
  ·rintro m a6 w6 ⟨q, hq, hL6, r1, r2, r3⟩
   have hql : q < yj.L.length := by omega
   have hA6 := hL6.fa
   rcases hE4 with ⟨h0, _⟩ | ⟨kb, off, cap', C, tC, fr, c1, c2, c3, c4, c5⟩
   ·omega
   have c4' := hA6.mod.some c4 (fun f => f)
   have hTq := hLs4 q hql
   refine wp_seq (wp_region_lit (Zv rfl (Zx (sz := 5) (i := q) (b := kb) (o := off) (n := yj.L.length) (cap := cap') (k := .i64) h5 (by rw [Ze, r1, c1]) (by rw [Ze, r3]) hql) ?_))
   have n1 : Act.get (a6.put (some v1) (.pointer (some ⟨kb, off + q * 5, none⟩))) v1 = .pointer (some ⟨kb, off + q * 5, none⟩) := Zq (hA6.lt gv1)
   refine Zv rfl (x_loadN (cs := [f4' q 0, f4' q 1, f4' q 2, f4' q 3, f4' q 4]) (b := kb) (o := off + q * 5) hmT (by rw [Ze]; exact n1) (range5 fun j hj => by rw [Zc c4']; exact c5 q hql j hj)) (Zv rfl (x_alloc hzT) ?_)
   obtain ⟨cq, hcq⟩ : ∃ cq : Array Value, cq = #[f4' q 0, f4' q 1, f4' q 2, f4' q 3, f4' q 4] := ⟨_, rfl⟩
   have hcq5 : cq.size = 5 := by rw [hcq]; rfl
   have hTc : TreeI x.w0 (from' cq 0) yj.L[q] := by rw [hcq]; exact hTq.congr (from5 (f4' q))
   have hall5 : cq.all (·.oneCell') = true := by rw [hcq]; exact all5 hTq.one
   rw [show ([f4' q 0, f4' q 1, f4' q 2, f4' q 3, f4' q 4] : List Value).toArray = cq by rw [hcq]]
   have r1' := Zh w6 (.cells (Value.agg #[.int .i64 0, .slice none 0 0, .bool false, .slice none 0 0, .slice none 0 0]).cells TT)
   have m7 : Mod none' w6 (w6.alloc (.cells (Value.agg #[.int .i64 0, .slice none 0 0, .bool false, .slice none 0 0, .slice none 0 0]).cells TT)) := (Mod.refl w6).alloc _
   generalize w6.alloc (.cells (Value.agg #[.int .i64 0, .slice none 0 0, .bool false, .slice none 0 0, .slice none 0 0]).cells TT) = w7 at *
   obtain ⟨xb, hxb⟩ : ∃ b, b = w6.heap.size := ⟨_, rfl⟩
   rw [<- hxb] at r1' ⊢
   refine wpl_skip rfl (x_storeN (cs := cq) (b := xb) (o := 0) (by rw [hcq5]; exact hsT) ?_ ?_ hall5 ?_) (wpList_nil ?_)
   ·rw [Ze, Zq (by simp only [Zs]; exact hA6.lt gbx)]
   ·rw [Ze, Zn (Ne.symm v2bx), Zq (by simp only [Zs]; exact hA6.lt gv2)]
   ·intro j hj
    rw [Zc r1', Zz r1', Nat.zero_add, Array.getElem?_eq_getElem (by show j < 5; omega)]
    exact ⟨rfl, rfl⟩
   rw [Zo]
   have k2 := put_tree (cs := cq) r1' (by rw [hcq5]; rfl)
   have m8 := mod_setCells xb w7 0 cq.toList
   have m68 : Mod none' w6 (w7.setCells xb 0 cq.toList) := m7.trans' m8 (fun _ _ f => f) (fun j hj e => by have e' : j = xb := e; omega)
   generalize w7.setCells xb 0 cq.toList = w8 at *
   have hL8 := (((hL6.new hr hsz m68).put gv1 (.pointer (some ⟨kb, off + q * 5, none⟩))).put gv2 (.agg cq)).put gbx (.pointer (some ⟨xb, 0, none⟩))
   have hlq : ((yj.L.take q).map E).length = q := by rw [List.length_map, List.length_take]; omega
   refine wp_mono (hap x v _ w8 B _ cq yj.L[q] xb TT hL8 (Zq (by simp only [Zs]; exact hA6.lt gbx)) k2 ?_ hcq5 hTc (hall _ (List.getElem_mem hql)) (by rw [hlq]; omega)) ?_
   ·intro C' t' g' cap'' hb' hc'
    obtain ⟨C0, t0, g0, cap0, lrow0, k1', k2', _, k4'⟩ := hL6.mem
    have e8 := m68.some k1' (fun f => f)
    rw [e8] at hb'
    obtain ⟨rfl, rfl⟩ : C0 = C' /\ t0 = t' := by simpa using hb'
    rw [k2'] at hc'
    have : g0 = g' := by simp at hc'; exact hc'.1
    have := (k4'.own.lt g0 rfl).2
    omega
   rintro e' a9 w9 ⟨rfl, hL9, hsb9⟩
   refine ⟨rfl, q, hq, ?_, ?_, ?_, ?_⟩
   ·rw [List.take_succ_eq_append_getElem hql, List.map_append]; exact hL9
   ·rw [hsb9.get _ wl, Zn (Ne.symm labx), Zn (Ne.symm lav2), Zn (Ne.symm lav1), r1]
   ·rw [hsb9.get _ wn, Zn (Ne.symm nabx), Zn (Ne.symm nav2), Zn (Ne.symm nav1), r2]
   ·rw [hsb9.get _ wi, Zn (Ne.symm iabx), Zn (Ne.symm iav2), Zn (Ne.symm iav1), r3]
  ·rintro m a6 w6 ⟨q, hq, hL6, r1, r2, r3⟩
   have hA6 := hL6.fa
   refine wp_region_lit (Zv rfl (x_add (k := .i64) (m := (q : Nat)) (n := 1) (by rw [Ze, r3]) rfl) (Zv rfl Zm (wpList_nil ⟨rfl, q + 1, by omega, (hL6.put gx1 _).put gi _, ?_, ?_, ?_⟩)))
   ·rw [Zn (Ne.symm lai), Zn (Ne.symm lax1), r1]
   ·rw [Zn (Ne.symm nai), Zn (Ne.symm nax1), r2]
   ·rw [Zq (by simp only [Zs]; exact hA6.lt gi), Ze, Zq (hA6.lt gx1)]
    congr 1
    rw [IntKind.wrap_i64]; omega
end
end Go.Proofs.YtmehfgiadapekaaGreat
