/-
  A field that a function of its own tells; a part that may be none; a part within. No program in it.
-/
import Derived.Test.YtcldbjehliladaaDoorPTelM
set_option linter.unusedSimpArgs false
set_option linter.unusedVariables false
namespace Go.Proofs.YtcldbjehliladaaDoor
open Go Go.RowKit
section
variable {P : Program} {σ : St} {N n TI TL T k i o j ys id fL : Nat} {ty : Ty} {d0 d1 d2 d3 d4 d5 d6 d7 d8 : Nat} {ts : Array TypeId} {y0 y1 y2 y3 y4 y5 y6 y7 y8 y9 : TypeId} {p0 p1 p2 p3 p4 p5 p6 p7 p8 p9 : String}
theorem tell_part (hT : TellT P TI TL) {σ' : St} {G : SV -> List Tr} (hL : TellC P fL σ' G) (hbd : bodied P fL = true) (hf : fieldOff P T k = some o) (hat : σ.lay.at i = some (o, .struct σ'.lay σ'.tg σ'.sz)) (hly : σ.lay.ok 0 σ.sz = true) (hok : tellOK N [d0, d1, d2, d3, d4, d6] [d7] = true) (hj : j < n) : TBlk P N n σ
    (Code.region id #[⟨some d0, .fieldAddr TI (.tmp 3) 3, y0, p0, #[], none⟩, ⟨some d1, .load TL (.tmp d0), y1, p1, #[⟨0, .data⟩], none⟩, ⟨some d2, .move (.tmp 0), y2, p2, #[], none⟩, ⟨some d3, .nilCheck (.tmp d2), y3, p3, #[⟨2, .data⟩], none⟩,
      ⟨some d4, .fieldAddr T (.tmp d3) k, y4, p4, #[⟨3, .data⟩], none⟩, ⟨some d6, .call ⟨.value (.func fL), #[.tmp d4], ts⟩, y6, p6, #[⟨4, .data⟩], none⟩,
      ⟨some d7, .indexAddr TL (.tmp d1) (.const (.int .i64 (j : Nat))), y7, p7, #[⟨1, .data⟩, ⟨0, .phase⟩, ⟨1, .phase⟩, ⟨2, .phase⟩, ⟨3, .phase⟩, ⟨4, .phase⟩, ⟨5, .phase⟩], none⟩,
      ⟨none, .store TI (.tmp d7) (.tmp d6), y8, p8, #[⟨6, .data⟩, ⟨5, .data⟩, ⟨5, .chain⟩, ⟨0, .phase⟩, ⟨1, .phase⟩, ⟨2, .phase⟩, ⟨3, .phase⟩, ⟨4, .phase⟩, ⟨5, .phase⟩], none⟩] true) j (fun v => structT G (v.1.getD i Tr.nul)) := by
  intro x Fs v tz uv a w0 w hxn hts hA hC hM
  subst hts
  replace hj : tz.length < x.n := by omega
  obtain ⟨hdl, hnd, htl⟩ := tellOK_dl hok
  obtain ⟨C, tC, hC1, hC2, hC3, _⟩ := hC.mem
  obtain ⟨u, hu, hrep⟩ := RepL.get _ _ _ _ _ _ hat hC3
  have hin := Lay.at_in _ _ _ _ _ _ hly hat
  simp only [Ty.size] at hin
  have hgd : v.1.getD i Tr.nul = u := by simp [List.getD, hu]
  show Code.wp _ _ (fun e a' w' => e = .normal /\ TAmb N x a' /\ TMem x w0 w' (tz ++ [structT G (v.1.getD i Tr.nul)]) uv) _ _
  rw [hgd]
  simp only [Rep] at hrep
  obtain ⟨vs, uu, hrl, htg, hue⟩ := hrep
  have hst : structT G u = .part (G (vs, uu)) uu := by rw [hue]; rfl
  rw [hst]
  have hcur : ∀ W, Mod none' w0 W -> Cur σ' Fs x.blk (x.off + o) (vs, uu) W := fun W hm => by
    refine ⟨C, tC, hm.some hC1 (fun f => f), by omega, ?_, ?_⟩
    · have e : from' C (x.off + o) = fun j => from' C x.off (o + j) := by funext j; simp only [from', Nat.add_assoc]
      rw [e]; exact hrl.mod hm (fun _ _ f => f) (fun _ h => h)
    · cases hg : σ'.tg with
      | none => rw [hg] at htg; exact htg
      | some q =>
        rw [hg] at htg
        show TagsR W Fs (from' C (x.off + o) q) uu
        have : from' C (x.off + o) q = from' C x.off (o + q) := by simp only [from', Nat.add_assoc]
        rw [this]; exact TagsR.mod htg hm (fun _ _ f => f) (fun _ h => h)
  have hnew := hM.new
  have hlt : x.tb < w.heap.size /\ x.lb < w.heap.size /\ x.rb < w.heap.size := by
    obtain ⟨T', hb⟩ := hM.hb
    obtain ⟨D, TD, hl, _⟩ := hM.hl
    obtain ⟨z, Tz, hr, _⟩ := hM.hr
    exact ⟨lt_of_block hb, lt_of_block hl, lt_of_block hr⟩
  have hl0 := hM.mod.size
  have hTF : ∀ k, w.heap.size <= k -> TF x w0 k := fun k hk => ⟨by omega, by omega, by omega, by omega⟩
  refine region_rlt (l := [_, _, _, _, _, _]) (tl := [_, _]) hT.ord (Mod none') (Mod.refl w).drew (fun _ _ _ h h' => h.trans h') [d0, d1, d2, d3, d4, d6]
    [fun v _ => v = .pointer (some ⟨x.tb, 0 + 3, none⟩), fun v _ => v = .slice (some ⟨x.lb, 0, none⟩) x.n x.n, fun v _ => v = .pointer (some ⟨x.blk, x.off, none⟩), fun v _ => v = .pointer (some ⟨x.blk, x.off, none⟩),
     fun v _ => v = .pointer (some ⟨x.blk, x.off + o, none⟩), fun v w' => TreeV w' (TF x w0) v (.part (G (vs, uu)) uu)]
    ?_ (by simp [regFormT]) hnd (fun d hd => by rw [hA.size]; exact (hdl d hd).1) (by simp) (by kernel_rfl) ⟨?_, ?_, ?_, ?_, ?_, ?_, trivial⟩ ?_
  · intro g hg v1 w1 w2 hv hr
    simp only [List.mem_cons, List.not_mem_nil, or_false] at hg
    rcases hg with rfl | rfl | rfl | rfl | rfl | rfl
    · exact hv
    · exact hv
    · exact hv
    · exact hv
    · exact hv
    · exact TreeV.mod hv hr (fun _ _ f => f) (fun _ h => h)
  · intro a1 w1 hr hs hd
    have t3 := (hs.get 3 (fun hm => (hdl 3 hm).2.2.2 rfl)).trans hA.tree
    exact Zw (Za hT.f3 t3) ⟨_, rfl, .refl _, rfl⟩
  · intro a1 w1 hr hs hd
    have e0 : Act.get a1 d0 = .pointer (some ⟨x.tb, 0 + 3, none⟩) := hd ⟨0, .data⟩ (by simp) rfl
    obtain ⟨T', hb⟩ := hM.hb
    exact Zw (Zl hT.one e0 (by rw [Zc (hr.some hb (fun f => f))]; rfl)) ⟨_, rfl, .refl _, rfl⟩
  · intro a1 w1 hr hs hd
    have t0 := (hs.get 0 (fun hm => (hdl 0 hm).2.1 rfl)).trans hA.src
    exact Zw (x_moveV t0) ⟨_, rfl, .refl _, rfl⟩
  · intro a1 w1 hr hs hd
    have e2 : Act.get a1 d2 = .pointer (some ⟨x.blk, x.off, none⟩) := hd ⟨2, .data⟩ (by simp) rfl
    exact Zw (x_nilCheck e2) ⟨_, rfl, .refl _, rfl⟩
  · intro a1 w1 hr hs hd
    have e3 : Act.get a1 d3 = .pointer (some ⟨x.blk, x.off, none⟩) := hd ⟨3, .data⟩ (by simp) rfl
    exact Zw (Za hf e3) ⟨_, rfl, .refl _, rfl⟩
  · intro a1 w1 hr hs hd
    have e4 : Act.get a1 d4 = .pointer (some ⟨x.blk, x.off + o, none⟩) := hd ⟨4, .data⟩ (by simp) rfl
    refine owp_call (Zy hbd rfl) (R := fun e w' => ∃ r, e = .returned r /\ Mod none' w1 w' /\ TreeV w' (From w1) r (.part (G (vs, uu)) uu)) ?_ ?_
    · have e1 : (#[Operand.tmp d4] : Array Operand).map a1.eval = #[.pointer (some ⟨x.blk, x.off + o, none⟩)] := by simp [Ze, e4]
      rw [e1]
      exact hL x.blk (x.off + o) (vs, uu) Fs w1 (hcur w1 (hM.mod.trans hr))
    · rintro e w2 ⟨r, rfl, hm, ht⟩
      have := hr.size
      exact ⟨r, rfl, r, rfl, hm, ht.mod (Mod.refl (S := none') w2) (fun _ _ f => f) (fun k hk => hTF k (by have hk' : w1.heap.size <= k := hk; omega))⟩
  · intro a1 w1 hr hs hh
    have e1 : Act.get a1 d1 = .slice (some ⟨x.lb, 0, none⟩) x.n x.n := hh 1 (by simp)
    obtain ⟨cs, e7, e8, e9, e10⟩ : TreeV w1 (TF x w0) (Act.get a1 d6) (.part (G (vs, uu)) uu) := hh 5 (by simp)
    have hd7 := htl d7 (by simp)
    have sN : a1.tmps.size = N := hs.size.trans hA.size
    have hM1 := hM.grow hr
    obtain ⟨D, TD, hl, hD1, hD2, hD3⟩ := hM1.hl
    refine Zv rfl (Zx (i := tz.length) (elemSize_of hT.elem) e1 rfl hj) ?_
    refine wpl_skip rfl (x_storeN (cs := cs) (b := x.lb) (o := 0 + tz.length * 5) (by rw [e8]; exact hT.size) ?_ ?_ e9 ?_) (wpList_nil ?_)
    · rw [Ze, Zq (by rw [sN]; exact hd7.1)]
    · rw [Ze, Zn (fun e => hd7.2.2.2.2 (by simp [e]))]
      exact e7
    · intro q hq
      have : tz.length * 5 + 5 <= x.n * 5 := by
        have := Nat.mul_le_mul_right 5 (show tz.length + 1 <= x.n by omega)
        omega
      rw [Zc hl, Zz hl, Array.getElem?_eq_getElem (by omega)]
      exact ⟨rfl, rfl⟩
    · have hAB : TAmb N x a1 := hA.same hs (fun hm => (hdl 0 hm).2.1 rfl) (fun hm => (hdl 2 hm).2.2.1 rfl) (fun hm => (hdl 3 hm).2.2.2 rfl)
      exact ⟨rfl, hAB.put ⟨hd7.2.1, hd7.2.2.1, hd7.2.2.2.1⟩ _, hM1.push hj e8 e10⟩
end
end Go.Proofs.YtcldbjehliladaaDoor
