/-
  Sixteen octets: what is told of them. No program in it.
-/
import Derived.Test.YtcldbjehliladaaDoorPUu
set_option linter.unusedSimpArgs false
set_option linter.unusedVariables false
namespace Go.Proofs.YtcldbjehliladaaDoor
open Go Go.RowKit
section
variable {P : Program} {σ : St} {N n TI TL T k i o j ys yb eb id : Nat} {d0 d1 d2 d3 d4 d5 d6 d7 d8 : Nat} {y0 y1 y2 y3 y4 y5 y6 y7 y8 y9 : TypeId} {p0 p1 p2 p3 p4 p5 p6 p7 p8 p9 : String}
theorem tell_uuid (hT : TellT P TI TL) (ha : arr16 P ys eb = true) (hI : elemInfo P yb eb 1 = true) (hf : fieldOff P T k = some o) (hat : σ.lay.at i = some (o, .uuid)) (hok : tellOK N [d0, d1, d2, d3, d4, d5, d6, d7] [d8] = true) (hj : j < n) : TBlk P N n σ
    (Code.region id #[⟨some d0, .fieldAddr TI (.tmp 3) 3, y0, p0, #[], none⟩, ⟨some d1, .load TL (.tmp d0), y1, p1, #[⟨0, .data⟩], none⟩, ⟨some d2, .move (.tmp 0), y2, p2, #[], none⟩, ⟨some d3, .nilCheck (.tmp d2), y3, p3, #[⟨2, .data⟩], none⟩,
      ⟨some d4, .fieldAddr T (.tmp d3) k, y4, p4, #[⟨3, .data⟩], none⟩, ⟨some d5, .slice ys (.tmp d4) none none none, y5, p5, #[⟨4, .data⟩], none⟩, ⟨some d6, .call ⟨.builtin .append, #[.const (.slice none 0 0), .tmp d5], #[yb, yb]⟩, y6, p6, #[⟨5, .data⟩], none⟩, ⟨some d7, .build TI #[(1, .tmp d6)], y7, p7, #[⟨6, .data⟩], none⟩,
      ⟨some d8, .indexAddr TL (.tmp d1) (.const (.int .i64 (j : Nat))), y8, p8, #[⟨1, .data⟩, ⟨0, .phase⟩, ⟨1, .phase⟩, ⟨2, .phase⟩, ⟨3, .phase⟩, ⟨4, .phase⟩, ⟨5, .phase⟩, ⟨6, .phase⟩, ⟨7, .phase⟩], none⟩,
      ⟨none, .store TI (.tmp d8) (.tmp d7), y9, p9, #[⟨8, .data⟩, ⟨7, .data⟩, ⟨6, .chain⟩, ⟨0, .phase⟩, ⟨1, .phase⟩, ⟨2, .phase⟩, ⟨3, .phase⟩, ⟨4, .phase⟩, ⟨5, .phase⟩, ⟨6, .phase⟩, ⟨7, .phase⟩], none⟩] true) j (fun v => v.1.getD i Tr.nul) := by
  intro x Fs v tz uv a w0 w hxn hts hA hC hM
  subst hts
  replace hj : tz.length < x.n := by omega
  obtain ⟨hdl, hnd, htl⟩ := tellOK_dl hok
  obtain ⟨C, tC, hC1, hC2, hC3, _⟩ := hC.mem
  obtain ⟨u, hu, hrep⟩ := RepL.get _ _ _ _ _ _ hat hC3
  simp only [Rep] at hrep
  obtain ⟨bs, hbl, hbs, rfl⟩ := hrep
  have hgd : v.1.getD i Tr.nul = .oct bs := by simp [List.getD, hu]
  show Code.wp _ _ (fun e a' w' => e = .normal /\ TAmb N x a' /\ TMem x w0 w' (tz ++ [v.1.getD i Tr.nul]) uv) _ _
  rw [hgd]
  have hocts : ∀ W, Mod none' w0 W -> Oct W (fun _ => True) (.slice (some ⟨x.blk, x.off + o, none⟩) 16 16) bs false := fun W hm => by
    refine .inl ⟨x.blk, .inr trivial, .inr ⟨rfl, x.off + o, 16, C, tC, (0, 0), by rw [hbl], by omega, by simp [maxLen], hm.some hC1 (fun f => f), fun q hq => ?_⟩⟩
    have h := hbs q hq
    simp only [from', Array.getD_eq_getD_getElem?] at h
    rw [show x.off + o + q = x.off + (o + q) by omega]
    cases hc : C[x.off + (o + q)]? with
    | none => rw [hc] at h; simp [undef] at h
    | some z => rw [hc] at h; simpa using h
  have hnew := hM.new
  have hlt : x.tb < w.heap.size /\ x.lb < w.heap.size /\ x.rb < w.heap.size := by
    obtain ⟨T', hb⟩ := hM.hb
    obtain ⟨D, TD, hl, _⟩ := hM.hl
    obtain ⟨z, Tz, hr, _⟩ := hM.hr
    exact ⟨lt_of_block hb, lt_of_block hl, lt_of_block hr⟩
  have hl0 := hM.mod.size
  have hTF : ∀ k, w.heap.size <= k -> TF x w0 k := fun k hk => ⟨by omega, by omega, by omega, by omega⟩
  refine region_rlt (l := [_, _, _, _, _, _, _, _]) (tl := [_, _]) hT.ord (Mod none') (Mod.refl w).drew (fun _ _ _ h h' => h.trans h') [d0, d1, d2, d3, d4, d5, d6, d7]
    [fun v _ => v = .pointer (some ⟨x.tb, 0 + 3, none⟩), fun v _ => v = .slice (some ⟨x.lb, 0, none⟩) x.n x.n, fun v _ => v = .pointer (some ⟨x.blk, x.off, none⟩), fun v _ => v = .pointer (some ⟨x.blk, x.off, none⟩),
     fun v _ => v = .pointer (some ⟨x.blk, x.off + o, none⟩), fun v _ => v = .slice (some ⟨x.blk, x.off + o, none⟩) 16 16, fun v w' => ∃ nil, Oct w' (TF x w0) v bs nil,
     fun v w' => ∃ cs : Array Value, v = .agg cs /\ cs.size = 5 /\ cs.all (·.oneCell') = true /\ TreeR w' (TF x w0) (from' cs 0) (.oct bs)]
    ?_ (by simp [regFormT]) hnd (fun d hd => by rw [hA.size]; exact (hdl d hd).1) (by simp) (by kernel_rfl) ⟨?_, ?_, ?_, ?_, ?_, ?_, ?_, ?_, trivial⟩ ?_
  · intro g hg v1 w1 w2 hv hr
    simp only [List.mem_cons, List.not_mem_nil, or_false] at hg
    rcases hg with rfl | rfl | rfl | rfl | rfl | rfl | rfl | rfl
    · exact hv
    · exact hv
    · exact hv
    · exact hv
    · exact hv
    · exact hv
    · obtain ⟨nil, hv⟩ := hv; exact ⟨nil, Oct.mod hv hr (fun _ _ f => f) (fun _ h => h)⟩
    · obtain ⟨cs, e1, e2, e3, e4⟩ := hv
      exact ⟨cs, e1, e2, e3, e4.mod hr (fun _ _ f => f) (fun _ h => h)⟩
  · intro a1 w1 hr hs hd
    have t3 := (hs.get 3 (fun hm => (hdl 3 hm).2.2.2 rfl)).trans hA.tree
    exact Zw (Za hT.f3 t3) ⟨_, rfl, .refl _, rfl⟩
  · intro a1 w1 hr hs hd
    have e0 : Act.get a1 d0 = .pointer (some ⟨x.tb, 0 + 3, none⟩) := hd ⟨0, .data⟩ (by simp) rfl
    obtain ⟨T', hb⟩ := hM.hb
    exact Zw (Zl hT.one e0 (by rw [Zc (hr.some hb (fun f => f))]; rfl)) ⟨_, rfl, .refl _, rfl⟩
  · intro a1 w1 hr hs hd
    have t0 := (hs.get 0 (fun hm => (hdl 0 hm).2.1 rfl)).trans hA.src
    exact Zw (x_moveV t0) ⟨_, rfl, .refl _, rfl⟩
  · intro a1 w1 hr hs hd
    have e2 : Act.get a1 d2 = .pointer (some ⟨x.blk, x.off, none⟩) := hd ⟨2, .data⟩ (by simp) rfl
    exact Zw (x_nilCheck e2) ⟨_, rfl, .refl _, rfl⟩
  · intro a1 w1 hr hs hd
    have e3 : Act.get a1 d3 = .pointer (some ⟨x.blk, x.off, none⟩) := hd ⟨3, .data⟩ (by simp) rfl
    exact Zw (Za hf e3) ⟨_, rfl, .refl _, rfl⟩
  · intro a1 w1 hr hs hd
    have e4 : Act.get a1 d4 = .pointer (some ⟨x.blk, x.off + o, none⟩) := hd ⟨4, .data⟩ (by simp) rfl
    exact Zw (x_sliceArr ha e4) ⟨_, rfl, .refl _, rfl⟩
  · intro a1 w1 hr hs hd
    have e5 : Act.get a1 d5 = .slice (some ⟨x.blk, x.off + o, none⟩) 16 16 := hd ⟨5, .data⟩ (by simp) rfl
    obtain ⟨v', w2, hrun, hm2, nil', ho2⟩ := x_copy (P := P) (ρ := a1.eval) (w := w1) (d := some d6) (ty := y6) (p := p6) (af := #[⟨5, .data⟩]) (g := none) (s := .const (.slice none 0 0)) (x := .tmp d5) (F := fun _ => True) hI rfl (by rw [Ze, e5]) (hocts w1 (hM.mod.trans hr)) (by omega)
    have hsz := hr.size
    exact Zw hrun ⟨_, rfl, hm2, nil', ho2.mod (Mod.refl (S := none') w2) (fun _ _ f => f) (fun k hk => hTF k (by omega))⟩
  · intro a1 w1 hr hs hd
    obtain ⟨nil6, e6⟩ : ∃ nil, Oct w1 (TF x w0) (Act.get a1 d6) bs nil := hd ⟨6, .data⟩ (by simp) rfl
    have hone := oct_one e6
    have hc6 := one_cells hone
    refine Zw (x_build (cells := #[.int .i64 0, Act.get a1 d6, .bool false, .slice none 0 0, .slice none 0 0]) ?_) ⟨_, rfl, .refl _, _, rfl, rfl, ?_, ?_⟩
    · simp only [List.map_toArray, List.map_cons, List.map_nil, Ze]
      rw [built_of hT.parts]
      show Instr.fill _ #[.int .i64 0, .slice none 0 0, .bool false, .slice none 0 0, .slice none 0 0] [(1, Act.get a1 d6)] = _
      simp [Instr.fill, hc6]
    · simp [hone, Value.oneCell']
      exact hone
    · exact tree_octs rfl e6 rfl rfl rfl
  · intro a1 w1 hr hs hh
    have e1 : Act.get a1 d1 = .slice (some ⟨x.lb, 0, none⟩) x.n x.n := hh 1 (by simp)
    obtain ⟨cs, e7, e8, e9, e10⟩ : ∃ cs : Array Value, Act.get a1 d7 = .agg cs /\ cs.size = 5 /\ cs.all (·.oneCell') = true /\ TreeR w1 (TF x w0) (from' cs 0) (.oct bs) := hh 7 (by simp)
    have hd8 := htl d8 (by simp)
    have sN : a1.tmps.size = N := hs.size.trans hA.size
    have hM1 := hM.grow hr
    obtain ⟨D, TD, hl, hD1, hD2, hD3⟩ := hM1.hl
    refine Zv rfl (Zx (i := tz.length) (elemSize_of hT.elem) e1 rfl hj) ?_
    refine wpl_skip rfl (x_storeN (cs := cs) (b := x.lb) (o := 0 + tz.length * 5) (by rw [e8]; exact hT.size) ?_ ?_ e9 ?_) (wpList_nil ?_)
    · rw [Ze, Zq (by rw [sN]; exact hd8.1)]
    · rw [Ze, Zn (fun e => hd8.2.2.2.2 (by simp [e]))]
      exact e7
    · intro q hq
      have : tz.length * 5 + 5 <= x.n * 5 := by
        have := Nat.mul_le_mul_right 5 (show tz.length + 1 <= x.n by omega)
        omega
      rw [Zc hl, Zz hl, Array.getElem?_eq_getElem (by omega)]
      exact ⟨rfl, rfl⟩
    · have hAB : TAmb N x a1 := hA.same hs (fun hm => (hdl 0 hm).2.1 rfl) (fun hm => (hdl 2 hm).2.2.1 rfl) (fun hm => (hdl 3 hm).2.2.2 rfl)
      exact ⟨rfl, hAB.put ⟨hd8.2.1, hd8.2.2.1, hd8.2.2.2.1⟩ _, hM1.push hj e8 e10⟩
end
end Go.Proofs.YtcldbjehliladaaDoor
