/-
  A field that a function of its own tells; a part that may be none; a part within. No program in it.
-/
import Derived.Test.YtpecdnfmlodmaaaGreatDoorRPTelM
set_option linter.unusedSimpArgs false
set_option linter.unusedVariables false
namespace Go.Proofs.YtpecdnfmlodmaaaGreatDoorR
open Go Go.RowKit
/-- what is told of a field of some kind by a function of its own -/
def LeafE (P : Program) (f : FuncId) (ty : Ty) (E : Tr -> Tr) : Prop := ∀ w F c t, Rep w F ty c t -> Calls P f #[c 0] w fun e w' => ∃ r, e = .returned r /\ Mod none' w w' /\ TreeV w' (From w) r (E t)
def Ty.leafE : Ty -> Bool
 | .pstruct _ _ _ => true
 | t => t.leaf
theorem rep_leafE {w : World} {F : Nat -> Prop} {ty : Ty} {c : Nat -> Value} {t : Tr} (h : ty.leafE = true) (hr : Rep w F ty c t) : c 0 ≠ undef := by
 cases ty with
 | pstruct lay tg sz =>
  simp only [Rep] at hr
  rcases hr with ⟨h, _⟩ | ⟨k, C, ty, vs, u, _, h, _⟩ <;> (rw [h]; simp [undef])
 | _ => exact rep_leaf (by simpa [Ty.leafE] using h) hr
/-- what is told of a part that may be none -/
def pstructT (G : SV -> List Tr) : Tr -> Tr
 | .mk _ _ true _ _ => .nul
 | .mk _ _ false l u => .part (G (l, u)) u
section
variable {P : Program} {TI TL fL pt yt : Nat} {id0 id1 id2 id3 : Nat} {ts : Array TypeId} {y0 y1 y2 y3 y4 y5 y6 y7 : TypeId} {p0 p1 p2 p3 p4 p5 p6 p7 : String} {e0 e1 e2 e3 e4 e5 e6 e7 : Array Edge}
theorem leaf_ptr {fid : FuncId} {fn : Func} {σ' : St} {G : SV -> List Tr} (hf : P.funcs[fid]? = some fn) (hN : fn.ntmps = 8) (hres : fn.results = #[.cell 2 TI]) (hT : TellT P TI TL) (hL : TellC P fL σ' G) (hbd : bodied P fL = true) (hpt : isPtr P pt = true)
  (hbody : fn.body = some (.seq (.region id0 #[⟨some 2, .alloc TI, y0, p0, e0, none⟩] false) (.seq (.seq (.region id1 #[⟨some 3, .move (.tmp 0), y1, p1, e1, none⟩, ⟨some 4, .binOp .eql pt (.tmp 3) (.const (.pointer none)) yt, y2, p2, e2, none⟩] false)
   (.cond (.tmp 4) (.seq (.region id2 #[⟨some 5, .build TI #[(2, .const (.bool true))], y3, p3, e3, none⟩, ⟨none, .store TI (.tmp 2) (.tmp 5), y4, p4, e4, none⟩] false) .ret) .skip))
   (.seq (.region id3 #[⟨some 6, .move (.tmp 0), y5, p5, e5, none⟩, ⟨some 7, .call ⟨.value (.func fL), #[.tmp 6], ts⟩, y6, p6, e6, none⟩, ⟨none, .store TI (.tmp 2) (.tmp 7), y7, p7, e7, none⟩] false) .ret)))) : LeafE P fid (.pstruct σ'.lay σ'.tg σ'.sz) (pstructT G) := by
 intro w F c t hrep
 simp only [Rep] at hrep
 refine calls_of_wp hf hbody ?_
 rw [hN]
 refine wp_act (fun a : Act => Act.get a 0 = c 0 /\ a.tmps.size = 8 /\ a.defers = []) ⟨by rw [Zj _ _ _ (by simp)]; rfl, by simp, rfl⟩ ?_
 rintro a ⟨a0, aN, ad⟩
 obtain ⟨rb, hrb⟩ : ∃ rb, rb = w.heap.size := ⟨_, rfl⟩
 refine wp_seq (wp_region_lit (Zv rfl (x_alloc hT.zero) (wpList_nil ?_)))
 have r1 := Zh w (.cells (Value.agg #[.int .i64 0, .slice none 0 0, .bool false, .slice none 0 0, .slice none 0 0]).cells TI)
 have m1 : Mod none' w (w.alloc (.cells (Value.agg #[.int .i64 0, .slice none 0 0, .bool false, .slice none 0 0, .slice none 0 0]).cells TI)) := (Mod.refl w).alloc _
 have s1 : (w.alloc (.cells (Value.agg #[.int .i64 0, .slice none 0 0, .bool false, .slice none 0 0, .slice none 0 0]).cells TI)).heap.size = w.heap.size + 1 := by simp
 generalize w.alloc (.cells (Value.agg #[.int .i64 0, .slice none 0 0, .bool false, .slice none 0 0, .slice none 0 0]).cells TI) = w1 at *
 rw [<- hrb] at r1 s1 ⊢
 replace r1 : w1.heap[rb]? = some (.cells #[.int .i64 0, .slice none 0 0, .bool false, .slice none 0 0, .slice none 0 0] TI (0, 0)) := r1
 rcases hrep with ⟨hc, rfl⟩ | ⟨kb, C, ty, vs, u, hFk, hc, hh, hCs, hrl, htg, rfl⟩
 ·refine wp_seq (wp_seq (wp_region_lit (Zv rfl Zm (Zv rfl (x_eqlPtr (m := none) hpt (fun _ => rfl) ?_) (wpList_nil ?_)))))
  ·simp (disch := first | omega | simp only [Zs]; omega) only [Zo, Ze, Zn, Zq, a0, hc]
  refine wp_cond_true ?_ (wp_seq (wp_region_lit (Zv rfl (x_build (cells := #[.int .i64 0, .slice none 0 0, .bool true, .slice none 0 0, .slice none 0 0]) ?_) ?_)))
  ·simp (disch := first | omega | simp only [Zs]; omega) only [Zo, Ze, Zn, Zq]
   rfl
  ·simp only [List.map_toArray, List.map_cons, List.map_nil]
   rw [built_of hT.parts]
   rfl
  refine leaf_ret (rb := rb) (w0 := w) (t := .nul) hres hT ?_ (Zq (by simp only [Zs]; omega)) rfl (by simp [Value.oneCell']) r1 rfl m1 (by omega) (tree_octs rfl oct_nil rfl rfl rfl) ?_ (fun _ _ h => wp_ret (by first | exact h | (simp only [Exit.then]; exact h))) (fun r w' h => h)
  ·simp (disch := first | omega | simp only [Zs]; omega) only [Zo, Ze, Zn, Zq]
  ·simp only [Zd]; exact ad
 ·refine wp_seq (wp_seq (wp_region_lit (Zv rfl Zm (Zv rfl (x_eqlPtr (m := some ⟨kb, 0, none⟩) hpt (fun _ => rfl) ?_) (wpList_nil ?_)))))
  ·simp (disch := first | omega | simp only [Zs]; omega) only [Zo, Ze, Zn, Zq, a0, hc]
  refine wp_cond_false ?_ (wp_skip ?_)
  ·simp (disch := first | omega | simp only [Zs]; omega) only [Zo, Ze, Zn, Zq]
   rfl
  refine wp_act (fun a : Act => Act.get a 0 = c 0 /\ Act.get a 2 = .pointer (some ⟨rb, 0, none⟩) /\ a.tmps.size = 8 /\ a.defers = []) ⟨?_, ?_, ?_, ?_⟩ ?_
  ·simp (disch := first | omega | simp only [Zs]; omega) only [Zo, Ze, Zn, Zq, a0]
  ·simp (disch := first | omega | simp only [Zs]; omega) only [Zo, Ze, Zn, Zq]
  ·simp only [Zs]; exact aN
  ·simp only [Zd]; exact ad
  clear a0 aN ad a
  rintro a ⟨a0, a2, aN, ad⟩
  have hcur : Cur σ' F kb 0 (vs, u) w1 := by
   refine ⟨C, ty, m1.some hh (fun f => f), by omega, hrl.mod m1 (fun _ _ f => f) (fun _ h => h), ?_⟩
   cases hg : σ'.tg with
   | none => rw [hg] at htg; exact htg
   | some q => rw [hg] at htg; exact TagsR.mod htg m1 (fun _ _ f => f) (fun _ h => h)
  refine wp_seq (wp_region_lit (Zv rfl Zm (wpl_call rfl (Zy hbd rfl) (R := fun e w' => ∃ r, e = .returned r /\ Mod none' w1 w' /\ TreeV w' (From w1) r (.part (G (vs, u)) u)) ?_ ?_)))
  ·have e1 : ∀ a : Act, Act.get a 6 = .pointer (some ⟨kb, 0, none⟩) -> (#[Operand.tmp 6] : Array Operand).map a.eval = #[.pointer (some ⟨kb, 0, none⟩)] := fun a h => by simp [Ze, h]
   rw [e1 _ (by rw [Zq (by omega), Ze, a0, hc])]
   exact hL kb 0 (vs, u) F w1 hcur
  ·rintro e w2 ⟨r, rfl, hm2, cs, rfl, hcs, hall, htr⟩
   refine ⟨_, rfl, ?_⟩
   refine leaf_ret (rb := rb) (w0 := w) (t := pstructT G (.part vs u)) hres hT ?_ (Zq (by simp only [Zs]; omega)) hcs hall (hm2.some r1 (fun f => f)) rfl (m1.trans hm2) (by omega) (htr.mod (Mod.refl (S := none') w2) (fun _ _ f => f) (fun k hk => by have hk' : w1.heap.size <= k := hk; exact ⟨by omega, by omega⟩)) ?_ (fun _ _ h => wp_ret (by first | exact h | (simp only [Exit.then]; exact h))) (fun r w' h => h)
   ·rw [Zn (by decide), Zn (by decide)]; exact a2
   ·simp only [Zd]; exact ad
end
section
variable {P : Program} {σ : St} {N n TI TL T k i o j ys id fL : Nat} {ty : Ty} {d0 d1 d2 d3 d4 d5 d6 d7 d8 : Nat} {ts : Array TypeId} {y0 y1 y2 y3 y4 y5 y6 y7 y8 y9 : TypeId} {p0 p1 p2 p3 p4 p5 p6 p7 p8 p9 : String}
theorem tell_leafE (hT : TellT P TI TL) {E : Tr -> Tr} (hL : LeafE P fL ty E) (hbd : bodied P fL = true) (hlf : ty.leafE = true) (ho1 : one P ys = true) (hf : fieldOff P T k = some o) (hat : σ.lay.at i = some (o, ty)) (hok : tellOK N [d0, d1, d2, d3, d4, d5, d6] [d7] = true) (hj : j < n) : TBlk P N n σ
    (Code.region id #[⟨some d0, .fieldAddr TI (.tmp 3) 3, y0, p0, #[], none⟩, ⟨some d1, .load TL (.tmp d0), y1, p1, #[⟨0, .data⟩], none⟩, ⟨some d2, .move (.tmp 0), y2, p2, #[], none⟩, ⟨some d3, .nilCheck (.tmp d2), y3, p3, #[⟨2, .data⟩], none⟩,
      ⟨some d4, .fieldAddr T (.tmp d3) k, y4, p4, #[⟨3, .data⟩], none⟩, ⟨some d5, .load ys (.tmp d4), y5, p5, #[⟨4, .data⟩], none⟩, ⟨some d6, .call ⟨.value (.func fL), #[.tmp d5], ts⟩, y6, p6, #[⟨5, .data⟩], none⟩,
      ⟨some d7, .indexAddr TL (.tmp d1) (.const (.int .i64 (j : Nat))), y7, p7, #[⟨1, .data⟩, ⟨0, .phase⟩, ⟨1, .phase⟩, ⟨2, .phase⟩, ⟨3, .phase⟩, ⟨4, .phase⟩, ⟨5, .phase⟩, ⟨6, .phase⟩], none⟩,
      ⟨none, .store TI (.tmp d7) (.tmp d6), y8, p8, #[⟨7, .data⟩, ⟨6, .data⟩, ⟨6, .chain⟩, ⟨0, .phase⟩, ⟨1, .phase⟩, ⟨2, .phase⟩, ⟨3, .phase⟩, ⟨4, .phase⟩, ⟨5, .phase⟩, ⟨6, .phase⟩], none⟩] true) j (fun v => E (v.1.getD i Tr.nul)) := by
  intro x Fs v tz uv a w0 w hxn hts hA hC hM
  subst hts
  replace hj : tz.length < x.n := by omega
  obtain ⟨hdl, hnd, htl⟩ := tellOK_dl hok
  obtain ⟨C, tC, hC1, hC2, hC3, _⟩ := hC.mem
  obtain ⟨u, hu, hrep⟩ := RepL.get _ _ _ _ _ _ hat hC3
  have hgd : v.1.getD i Tr.nul = u := by simp [List.getD, hu]
  show Code.wp _ _ (fun e a' w' => e = .normal /\ TAmb N x a' /\ TMem x w0 w' (tz ++ [E (v.1.getD i Tr.nul)]) uv) _ _
  rw [hgd]
  obtain ⟨c0, hc0⟩ : ∃ c0, c0 = from' C x.off (o + 0) := ⟨_, rfl⟩
  have hcell : C[x.off + o]? = some c0 := by
    have hnu := rep_leafE hlf hrep
    simp only [<- hc0] at hnu
    simp only [from', Nat.add_zero, Array.getD_eq_getD_getElem?] at hc0
    cases hc : C[x.off + o]? with
    | none => rw [hc] at hc0; exact (hnu hc0).elim
    | some q => rw [hc] at hc0; simp at hc0; rw [hc0]
  have hnew := hM.new
  have hlt : x.tb < w.heap.size /\ x.lb < w.heap.size /\ x.rb < w.heap.size := by
    obtain ⟨T', hb⟩ := hM.hb
    obtain ⟨D, TD, hl, _⟩ := hM.hl
    obtain ⟨z, Tz, hr, _⟩ := hM.hr
    exact ⟨lt_of_block hb, lt_of_block hl, lt_of_block hr⟩
  have hl0 := hM.mod.size
  have hTF : ∀ k, w.heap.size <= k -> TF x w0 k := fun k hk => ⟨by omega, by omega, by omega, by omega⟩
  refine region_rlt (l := [_, _, _, _, _, _, _]) (tl := [_, _]) hT.ord (Mod none') (Mod.refl w).drew (fun _ _ _ h h' => h.trans h') [d0, d1, d2, d3, d4, d5, d6]
    [fun v _ => v = .pointer (some ⟨x.tb, 0 + 3, none⟩), fun v _ => v = .slice (some ⟨x.lb, 0, none⟩) x.n x.n, fun v _ => v = .pointer (some ⟨x.blk, x.off, none⟩), fun v _ => v = .pointer (some ⟨x.blk, x.off, none⟩),
     fun v _ => v = .pointer (some ⟨x.blk, x.off + o, none⟩), fun v _ => v = c0, fun v w' => TreeV w' (TF x w0) v (E u)]
    ?_ (by simp [regFormT]) hnd (fun d hd => by rw [hA.size]; exact (hdl d hd).1) (by simp) (by kernel_rfl) ⟨?_, ?_, ?_, ?_, ?_, ?_, ?_, trivial⟩ ?_
  · intro g hg v1 w1 w2 hv hr
    simp only [List.mem_cons, List.not_mem_nil, or_false] at hg
    rcases hg with rfl | rfl | rfl | rfl | rfl | rfl | rfl
    · exact hv
    · exact hv
    · exact hv
    · exact hv
    · exact hv
    · exact hv
    · exact TreeV.mod hv hr (fun _ _ f => f) (fun _ h => h)
  · intro a1 w1 hr hs hd
    have t3 := (hs.get 3 (fun hm => (hdl 3 hm).2.2.2 rfl)).trans hA.tree
    exact Zw (Za hT.f3 t3) ⟨_, rfl, .refl _, rfl⟩
  · intro a1 w1 hr hs hd
    have e0 : Act.get a1 d0 = .pointer (some ⟨x.tb, 0 + 3, none⟩) := hd ⟨0, .data⟩ (by simp) rfl
    obtain ⟨T', hb⟩ := hM.hb
    exact Zw (Zl hT.one e0 (by rw [Zc (hr.some hb (fun f => f))]; rfl)) ⟨_, rfl, .refl _, rfl⟩
  · intro a1 w1 hr hs hd
    have t0 := (hs.get 0 (fun hm => (hdl 0 hm).2.1 rfl)).trans hA.src
    exact Zw (x_moveV t0) ⟨_, rfl, .refl _, rfl⟩
  · intro a1 w1 hr hs hd
    have e2 : Act.get a1 d2 = .pointer (some ⟨x.blk, x.off, none⟩) := hd ⟨2, .data⟩ (by simp) rfl
    exact Zw (x_nilCheck e2) ⟨_, rfl, .refl _, rfl⟩
  · intro a1 w1 hr hs hd
    have e3 : Act.get a1 d3 = .pointer (some ⟨x.blk, x.off, none⟩) := hd ⟨3, .data⟩ (by simp) rfl
    exact Zw (Za hf e3) ⟨_, rfl, .refl _, rfl⟩
  · intro a1 w1 hr hs hd
    have e4 : Act.get a1 d4 = .pointer (some ⟨x.blk, x.off + o, none⟩) := hd ⟨4, .data⟩ (by simp) rfl
    exact Zw (Zl ho1 e4 (by rw [Zc ((hM.mod.trans hr).some hC1 (fun f => f))]; exact hcell)) ⟨_, rfl, .refl _, rfl⟩
  · intro a1 w1 hr hs hd
    have e5 : Act.get a1 d5 = c0 := hd ⟨5, .data⟩ (by simp) rfl
    refine owp_call (Zy hbd rfl) (R := fun e w' => ∃ r, e = .returned r /\ Mod none' w1 w' /\ TreeV w' (From w1) r (E u)) ?_ ?_
    · have e1 : (#[Operand.tmp d5] : Array Operand).map a1.eval = #[c0] := by simp [Ze, e5]
      rw [e1, hc0]
      exact hL w1 Fs (fun q => from' C x.off (o + q)) u (Rep.mod (hM.mod.trans hr) (fun _ _ f => f) (fun _ h => h) ty _ u hrep)
    · rintro e w2 ⟨r, rfl, hm, ht⟩
      have := hr.size
      exact ⟨r, rfl, r, rfl, hm, ht.mod (Mod.refl (S := none') w2) (fun _ _ f => f) (fun k hk => hTF k (by have hk' : w1.heap.size <= k := hk; omega))⟩
  · intro a1 w1 hr hs hh
    have e1 : Act.get a1 d1 = .slice (some ⟨x.lb, 0, none⟩) x.n x.n := hh 1 (by simp)
    obtain ⟨cs, e7, e8, e9, e10⟩ : TreeV w1 (TF x w0) (Act.get a1 d6) (E u) := hh 6 (by simp)
    have hd7 := htl d7 (by simp)
    have sN : a1.tmps.size = N := hs.size.trans hA.size
    have hM1 := hM.grow hr
    obtain ⟨D, TD, hl, hD1, hD2, hD3⟩ := hM1.hl
    refine Zv rfl (Zx (i := tz.length) (elemSize_of hT.elem) e1 rfl hj) ?_
    refine wpl_skip rfl (x_storeN (cs := cs) (b := x.lb) (o := 0 + tz.length * 5) (by rw [e8]; exact hT.size) ?_ ?_ e9 ?_) (wpList_nil ?_)
    · rw [Ze, Zq (by rw [sN]; exact hd7.1)]
    · rw [Ze, Zn (fun e => hd7.2.2.2.2 (by simp [e]))]
      exact e7
    · intro q hq
      have : tz.length * 5 + 5 <= x.n * 5 := by
        have := Nat.mul_le_mul_right 5 (show tz.length + 1 <= x.n by omega)
        omega
      rw [Zc hl, Zz hl, Array.getElem?_eq_getElem (by omega)]
      exact ⟨rfl, rfl⟩
    · have hAB : TAmb N x a1 := hA.same hs (fun hm => (hdl 0 hm).2.1 rfl) (fun hm => (hdl 2 hm).2.2.1 rfl) (fun hm => (hdl 3 hm).2.2.2 rfl)
      exact ⟨rfl, hAB.put ⟨hd7.2.1, hd7.2.2.1, hd7.2.2.2.1⟩ _, hM1.push hj e8 e10⟩
end
end Go.Proofs.YtpecdnfmlodmaaaGreatDoorR
