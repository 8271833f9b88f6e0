/-
  Rules for the code that sets a list (FnMake): one thing more.
-/
import Derived.Test.YtmehfgiadapekaaGreatPZl
set_option linter.unusedSimpArgs false
set_option linter.unusedVariables false
namespace Go.Proofs.YtmehfgiadapekaaGreat
open Go Go.RowKit
theorem RepS.cells {w : World} {F : Nat -> Prop} {ety : Ty} {v : Value} {t : Tr} (h : RepS w F ety v t) (hr : ety.ok = true) : v.cells.size = ety.size /\ v.cells.all (·.oneCell') = true /\ Rep w F ety (from' v.cells 0) t := by
 rcases h with ⟨h1, h2, h3⟩ | ⟨cs, rfl, h2, h3, h4⟩
 ·have hc : v.cells = #[v] := one_cells h2
  rw [hc]
  refine ⟨by simp [h1], by simp [h2], Rep.congr ety _ _ _ hr (fun j hj => ?_) h3⟩
  have : j = 0 := by omega
  subst this
  rfl
 ·exact ⟨h2, h3, h4⟩
section
variable {P : Program} {Γ : Fl} {σ : St} {o k sz e T TT LT fm bx d0 d1 d2 d3 d4 d5 d6 d7 d8 d9 d10 : Nat} {ety : Ty} {E : Tr -> Tr} {oke : Tr -> Prop} {id : Nat}
 {y0 y1 y2 y3 y4 y5 y6 y7 y8 y9 y10 y11 : TypeId} {p0 p1 p2 p3 p4 p5 p6 p7 p8 p9 p10 p11 : String} {ts : Array TypeId}
set_option maxHeartbeats 1000000 in
/-- one thing is put behind, by a pointer that is held against nil -/
theorem app_fill (hord : P.follows .mixedOrders = true) (hmT : many P TT 5 = true) (hm : ValC P fm ety E oke) (hbd : bodied P fm = true) (hI : elemInfo P LT e sz = true) (hone : one P LT = true) (hsz1 : sized P LT 1 = true) (hot : Γ.off o 1 = true) (hf : fieldOff P T k = some o) (hr : ety.ok = true) (hsz : ety.size = sz)
    (hs : ([d0, d1, d2, d3, d4, d5, d6, d7, d8].all (fun d => Γ.free d && d != bx) && decide ([d0, d1, d2, d3, d4, d5, d6, d7, d8] : List Nat).Nodup && [d9, d10].all (fun d => Γ.free d && !([d0, d1, d2, d3, d4, d5, d6, d7, d8] : List Nat).contains d) && d9 != d10) = true) :
    AppE P Γ σ (.region id #[⟨some d0, .move (.tmp Γ.s), y0, p0, #[], none⟩,
      ⟨some d1, .move (.tmp Γ.s), y1, p1, #[], none⟩,
      ⟨some d2, .nilCheck (.tmp d1), y2, p2, #[⟨1, .data⟩], none⟩,
      ⟨some d3, .fieldAddr T (.tmp d2) k, y3, p3, #[⟨2, .data⟩], none⟩,
      ⟨some d4, .load LT (.tmp d3), y4, p4, #[⟨3, .data⟩], none⟩,
      ⟨some d5, .load TT (.tmp bx), y5, p5, #[], none⟩,
      ⟨some d6, .call ⟨.value (.func fm), #[.tmp d5], ts⟩, y6, p6, #[⟨5, .data⟩], none⟩,
      ⟨some d7, .buildSlice LT 1 #[(0, .tmp d6)], y7, p7, #[⟨6, .data⟩], none⟩,
      ⟨some d8, .call ⟨.builtin .append, #[.tmp d4, .tmp d7], #[LT, LT]⟩, y8, p8, #[⟨4, .data⟩, ⟨7, .data⟩, ⟨6, .chain⟩], none⟩,
      ⟨some d9, .nilCheck (.tmp d0), y9, p9, #[⟨0, .data⟩, ⟨0, .phase⟩, ⟨1, .phase⟩, ⟨2, .phase⟩, ⟨3, .phase⟩, ⟨4, .phase⟩, ⟨5, .phase⟩, ⟨6, .phase⟩, ⟨7, .phase⟩, ⟨8, .phase⟩], none⟩,
      ⟨some d10, .fieldAddr T (.tmp d9) k, y10, p10, #[⟨9, .data⟩, ⟨0, .phase⟩, ⟨1, .phase⟩, ⟨2, .phase⟩, ⟨3, .phase⟩, ⟨4, .phase⟩, ⟨5, .phase⟩, ⟨6, .phase⟩, ⟨7, .phase⟩, ⟨8, .phase⟩], none⟩,
      ⟨none, .store LT (.tmp d10) (.tmp d8), y11, p11, #[⟨10, .data⟩, ⟨8, .data⟩, ⟨8, .chain⟩, ⟨0, .phase⟩, ⟨1, .phase⟩, ⟨2, .phase⟩, ⟨3, .phase⟩, ⟨4, .phase⟩, ⟨5, .phase⟩, ⟨6, .phase⟩, ⟨7, .phase⟩, ⟨8, .phase⟩], none⟩] true) bx o ety sz e E oke := by
  intro x v a w B done cs y xb T' hL hbx hxb hfr hcs hT hok hlen
  simp only [Bool.and_eq_true, List.all_eq_true, decide_eq_true_eq, bne_iff_ne, Bool.not_eq_true', List.contains_eq_mem, decide_eq_false_iff_not] at hs
  obtain ⟨⟨⟨hdl, hnd⟩, htl⟩, n910⟩ := hs
  have hA := hL.fa
  obtain ⟨C, t, g, cap, lrow, h1, h2, h3, h4⟩ := hL.mem
  obtain ⟨l1, l2, l3, l4, l5⟩ := hL.lo
  obtain ⟨ov, hov⟩ : ∃ ov, ov = Value.slice (some ⟨g, 0, none⟩) done.length cap := ⟨_, rfl⟩
  have hob : ∀ k, ov.ownBlock = some k -> k = g := fun k hk => by rw [hov] at hk; simpa [Value.ownBlock] using hk.symm
  have hgB : B <= g /\ g < w.heap.size := h4.own.lt g rfl
  have hnwS : ∀ k, x.nw w k -> ¬ (ov.ownBlock = some k) := fun k hk e => by have := hob k e; rcases hk with hk | hk <;> omega
  have hMx : ∀ W, Mod (fun k => ov.ownBlock = some k) w W -> Mod none' x.w0 W := fun W hm => hA.mod.trans' hm (fun _ _ f => f) (fun j hj e => by have := hob j e; omega)
  have hsN : ∀ d ∈ [d0, d1, d2, d3, d4, d5, d6, d7, d8], d < a.tmps.size := fun d hd => hA.lt (hdl d hd).1
  have hs0 : Γ.s ∉ [d0, d1, d2, d3, d4, d5, d6, d7, d8] := fun h => (Fl.free_spec (hdl _ h).1).2.2 rfl
  have htb0 : Γ.tb ∉ [d0, d1, d2, d3, d4, d5, d6, d7, d8] := fun h => (Fl.free_spec (hdl _ h).1).2.1 rfl
  have hrs0 : ∀ q, Γ.r = some q -> q ∉ [d0, d1, d2, d3, d4, d5, d6, d7, d8] := fun q hq h => (Fl.free_all (hdl _ h).1).2.2.2 hq
  have hbx0 : bx ∉ [d0, d1, d2, d3, d4, d5, d6, d7, d8] := fun h => (hdl _ h).2 rfl
  refine region_rlq (l := [_, _, _, _, _, _, _, _, _]) (tl := [_, _, _]) hord (Mod (fun k => ov.ownBlock = some k)) (fun a b h => h.none) (fun _ _ _ h h' => h.trans h') [d0, d1, d2, d3, d4, d5, d6, d7, d8]
    [fun v _ => v = .pointer (some ⟨x.blk, 0, none⟩),
     fun v _ => v = .pointer (some ⟨x.blk, 0, none⟩),
     fun v _ => v = .pointer (some ⟨x.blk, 0, none⟩),
     fun v _ => v = .pointer (some ⟨x.blk, 0 + o, none⟩),
     fun v _ => v = .slice (some ⟨g, 0, none⟩) done.length cap,
     fun v _ => v = .agg cs,
     fun v w' => RepS w' (x.nw w) ety v (E y),
     fun v w' => ∃ nb ms, v = .slice (some ⟨nb, 0, none⟩) 1 1 /\ w'.heap[nb]? = some (.cells ms e (0, 0)) /\ w.heap.size <= nb /\ ms.size = sz /\ ms.all (·.oneCell') = true /\ Rep w' (x.nw w) ety (from' ms 0) (E y)]
    (fun v w' => ∃ lrow', RowG (fun w F c (t : Tr) => Rep w F ety c t) e sz B (fun k => x.F k /\ k < B) w' v lrow' (done ++ [E y]) /\ ∃ g cap, v = .slice (some ⟨g, 0, none⟩) (done ++ [E y]).length cap)
    ?_ ?_ (by simp [regFormT]) hnd hsN (by simp) (by kernel_rfl) ⟨?_, ?_, ?_, ?_, ?_, ?_, ?_, ?_, ?_, trivial⟩ ?_
  · intro g' hg u1 w1 w2 hv hr'
    simp only [List.mem_cons, List.not_mem_nil, or_false] at hg
    rcases hg with rfl | rfl | rfl | rfl | rfl | rfl | rfl | rfl
    · exact hv
    · exact hv
    · exact hv
    · exact hv
    · exact hv
    · exact hv
    · exact RepS.mod hv hr' hnwS (fun _ h => h)
    · obtain ⟨nb, ms, q1, q2, q3, q4, q5, q6⟩ := hv
      exact ⟨nb, ms, q1, hr'.some q2 (fun e => by have := hob nb e; omega), q3, q4, q5, q6.mod hr' hnwS (fun _ h => h)⟩
  · rintro u1 w1 w2 ⟨lr, q1, q2⟩ hr'
    exact ⟨lr, q1.grow (rep_ok hr hsz) hr', q2⟩
  · intro a1 w1 hr' hp hs hd
    have t1 := (hs.get Γ.s hs0).trans hA.ptr
    exact Zw (x_moveV t1) ⟨_, rfl, relp_ne (by rfl) (.refl _), rfl⟩
  · intro a1 w1 hr' hp hs hd
    have t1 := (hs.get Γ.s hs0).trans hA.ptr
    exact Zw (x_moveV t1) ⟨_, rfl, relp_ne (by rfl) (.refl _), rfl⟩
  · intro a1 w1 hr' hp hs hd
    have q : Act.get a1 d1 = .pointer (some ⟨x.blk, 0, none⟩) := hd ⟨1, .data⟩ (by simp) rfl
    exact Zw (x_nilCheck (q := ⟨x.blk, 0, none⟩) (by rw [Ze]; exact q)) ⟨_, rfl, relp_ne (by rfl) (.refl _), rfl⟩
  · intro a1 w1 hr' hp hs hd
    have q : Act.get a1 d2 = .pointer (some ⟨x.blk, 0, none⟩) := hd ⟨2, .data⟩ (by simp) rfl
    exact Zw (Za hf (b := x.blk) (o0 := 0) (by rw [Ze]; exact q)) ⟨_, rfl, relp_ne (by rfl) (.refl _), rfl⟩
  · intro a1 w1 hr' hp hs hd
    have q : Act.get a1 d3 = .pointer (some ⟨x.blk, 0 + o, none⟩) := hd ⟨3, .data⟩ (by simp) rfl
    have c1 := hr'.some h1 (fun e => by have := hob _ e; omega)
    exact Zw (Zl hone (b := x.blk) (o := 0 + o) (by rw [Ze]; exact q) (by rw [Zc c1]; exact h2)) ⟨_, rfl, relp_ne (by rfl) (.refl _), rfl⟩
  · intro a1 w1 hr' hp hs hd
    have q := (hs.get bx hbx0).trans hbx
    have hxg : xb ≠ g := hfr C t g cap h1 h2
    have c1 := hr'.some hxb (fun e => hxg (hob _ e))
    exact Zw (x_loadN (cs := cs.toList) (b := xb) (o := 0) (by rw [Array.length_toList, hcs]; exact hmT) (by rw [Ze]; exact q) (fun j v hv => by rw [Zc c1, Nat.zero_add]; simpa using hv)) ⟨_, rfl, relp_ne (by rfl) (.refl _), by simp⟩
  · intro a1 w1 hr' hp hs hd
    have q : Act.get a1 d5 = .agg cs := hd ⟨5, .data⟩ (by simp) rfl
    have ee : (#[Operand.tmp d5] : Array Operand).map a1.eval = #[.agg cs] := by simp [Ze, q]
    refine owp_call (Zy hbd rfl) (by rw [ee]; exact hm x.w0 w1 cs y (hMx w1 hr') hcs hT hok) ?_
    rintro e' w2 ⟨v2, rfl, hm2, hrep⟩
    exact ⟨_, rfl, _, rfl, relp_ne (by rfl) hm2, hrep.mod (Mod.refl (S := none') w2) (fun _ _ f => f) (fun k hk => Fx.nw_mono (x := x) hr'.size hk)⟩
  · intro a1 w1 hr' hp hs hd
    have q : RepS w1 (x.nw w) ety (Act.get a1 d6) (E y) := hd ⟨6, .data⟩ (by simp) rfl
    obtain ⟨c1, c2, c3⟩ := q.cells hr
    refine Zw (x_buildSlice1 (v := Act.get a1 d6) hI (Ze _) (c1.trans hsz)) ⟨_, rfl, relp_ne (by rfl) ((Mod.refl w1).alloc _), w1.heap.size, _, rfl, Zh w1 _, hr'.size, c1.trans hsz, c2, c3.mod (S := none') ((Mod.refl w1).alloc _) (fun _ _ f => f) (fun _ h => h)⟩
  · intro a1 w1 hr' hp hs hd
    have q4 : Act.get a1 d4 = .slice (some ⟨g, 0, none⟩) done.length cap := hd ⟨4, .data⟩ (by simp) rfl
    obtain ⟨nb, ms, q5, q6, q7, q8, q9, q10⟩ : ∃ nb ms, Act.get a1 d7 = .slice (some ⟨nb, 0, none⟩) 1 1 /\ w1.heap[nb]? = some (.cells ms e (0, 0)) /\ w.heap.size <= nb /\ ms.size = sz /\ ms.all (·.oneCell') = true /\ Rep w1 (x.nw w) ety (from' ms 0) (E y) := hd ⟨7, .data⟩ (by simp) rfl
    have hpm := hp rfl
    have hG1 := h4.grow (rep_ok hr hsz) hpm
    obtain ⟨v', w2, hrun, k1, k2, k3, k4⟩ := x_append (P := P) (ρ := a1.eval) (w := w1) (d := some d8) (ty := y8) (p := p8) (af := #[⟨4, .data⟩, ⟨7, .data⟩, ⟨6, .chain⟩]) (g := none) (s := .tmp d4) (x := .tmp d7) (base := B) (n := done.length) (xs := lrow) (ad := ⟨nb, 0, none⟩) (m := 1) (c := 1) (news := ms.toList) hI (by rw [Ze]; exact q4) (by rw [Ze]; exact q5) hG1.own (by simp [q8]) (fun j u hu => by rw [Addr.add_mid, Zc q6, Nat.zero_add]; simpa using hu) (fun u hu => Array.all_eq_true_iff_forall_mem.1 q9 u (by simpa using hu)) (by omega) (by have := hpm.size; omega)
    have hps := hpm.size
    refine Zw hrun ⟨_, rfl, relp_eq (by rw [hov]; exact k2), lrow ++ ms.toList, hG1.push (rep_ok hr hsz) k2 (by simpa using k1) (by simp [q8]) k4 ?_, ?_⟩
    · have hlt := Rep.lt ety _ _ q10
      refine Rep.mod (Mod.refl (S := none') w1) (fun _ _ f => f) (fun k hk => ?_) _ _ _ (Rep.congr ety _ _ _ hr (fun j hj => by simp [from', List.getD_eq_getElem?_getD]) hlt)
      have hk1 := hk.1
      refine ⟨?_, fun e => ?_, hk.2⟩
      · rcases hk1 with hk1 | hk1
        · exact .inl ⟨⟨.inl hk1, by have := hA.lo; omega, by have := hA.lo; omega⟩, by omega⟩
        · exact .inr (by omega)
      · have e' : g = k := by simpa [Value.ownBlock] using e
        rcases hk1 with hk1 | hk1 <;> omega
    · rcases k1.2 with ⟨_, h0⟩ | ⟨g2, cap2, _, hv2, _⟩
      · omega
      · exact ⟨g2, cap2, by rw [hv2]; simp⟩
  · intro a1 w1 hr' hs hh
    obtain ⟨lrow', q1, q2⟩ : ∃ lrow', RowG (fun w F c (t : Tr) => Rep w F ety c t) e sz B (fun k => x.F k /\ k < B) w1 (Act.get a1 d8) lrow' (done ++ [E y]) /\ ∃ g cap, Act.get a1 d8 = .slice (some ⟨g, 0, none⟩) (done ++ [E y]).length cap := hh 8 (by simp)
    have sN : ∀ d, Γ.free d = true -> d < a1.tmps.size := fun d hd => by rw [hs.size]; exact hA.lt hd
    have hA1 : FA Γ x a1 w1 := (hA.same hs htb0 hs0 hrs0).world hr' (fun k e => by have := hob k e; subst this; exact ⟨by omega, by omega, by omega⟩)
    have c1 := hr'.some h1 (fun e => by have := hob _ e; omega)
    have fd9 := htl d9 (by simp)
    have fd10 := htl d10 (by simp)
    have q0 : Act.get a1 d0 = .pointer (some ⟨x.blk, 0, none⟩) := hh 0 (by simp)
    refine Zv rfl (x_nilCheck (q := ⟨x.blk, 0, none⟩) (by rw [Ze]; exact q0)) (Zv rfl (Za hf (b := x.blk) (o0 := 0) ?_) ?_)
    · rw [Ze, Zq (sN _ fd9.1)]
    have hone' : (Act.get a1 d8).oneCell' = true := by obtain ⟨_, _, e⟩ := q2; rw [e]; rfl
    refine wpl_skip rfl (x_store1 hsz1 (b := x.blk) (o := 0 + o) (v := Act.get a1 d8) (u := .slice (some ⟨g, 0, none⟩) done.length cap) ?_ ?_ hone' (by rw [Zc c1]; exact h2) (Zz c1)) (wpList_nil ⟨rfl, ?_, ?_⟩)
    · rw [Ze, Zq (by rw [Zs]; exact sN _ fd10.1)]
    · rw [Ze, Zn (fun e => fd10.2 (by simp [<- e])), Zn (fun e => fd9.2 (by simp [<- e]))]
    · rw [Zo]
      exact hL.push hot hr hsz h1 h2 (hr'.mono fun k _ e => by have := hob k e; subst this; exact ⟨rfl, hgB.1⟩) q1 q2 ((hA1.put fd9.1 _).put fd10.1 _)
    · rw [Zo]
      refine (((hs.mono fun t ht => ?_).put ?_ _).put ?_ _)
      · simp only [List.mem_cons, List.not_mem_nil, or_false] at ht
        rcases ht with rfl | rfl | rfl | rfl | rfl | rfl | rfl | rfl | rfl <;> simp [W, writes]
      all_goals simp [W, writes]
set_option maxHeartbeats 1000000 in
/-- one thing is put behind -/
theorem app_make (hord : P.follows .mixedOrders = true) (hmT : many P TT 5 = true) (hm : ValC P fm ety E oke) (hbd : bodied P fm = true) (hI : elemInfo P LT e sz = true) (hone : one P LT = true) (hsz1 : sized P LT 1 = true) (hot : Γ.off o 1 = true) (hf : fieldOff P T k = some o) (hr : ety.ok = true) (hsz : ety.size = sz)
    (hs : ([d0, d1, d2, d3, d4, d5].all (fun d => Γ.free d && d != bx) && decide ([d0, d1, d2, d3, d4, d5] : List Nat).Nodup && [d6].all (fun d => Γ.free d && !([d0, d1, d2, d3, d4, d5] : List Nat).contains d)) = true) :
    AppE P Γ σ (.region id #[⟨some d0, .fieldAddr T (.tmp Γ.s) k, y0, p0, #[], none⟩,
      ⟨some d1, .load LT (.tmp d0), y1, p1, #[⟨0, .data⟩], none⟩,
      ⟨some d2, .load TT (.tmp bx), y2, p2, #[], none⟩,
      ⟨some d3, .call ⟨.value (.func fm), #[.tmp d2], ts⟩, y3, p3, #[⟨2, .data⟩], none⟩,
      ⟨some d4, .buildSlice LT 1 #[(0, .tmp d3)], y4, p4, #[⟨3, .data⟩], none⟩,
      ⟨some d5, .call ⟨.builtin .append, #[.tmp d1, .tmp d4], #[LT, LT]⟩, y5, p5, #[⟨1, .data⟩, ⟨4, .data⟩, ⟨3, .chain⟩], none⟩,
      ⟨some d6, .fieldAddr T (.tmp Γ.s) k, y6, p6, #[⟨0, .phase⟩, ⟨1, .phase⟩, ⟨2, .phase⟩, ⟨3, .phase⟩, ⟨4, .phase⟩, ⟨5, .phase⟩], none⟩,
      ⟨none, .store LT (.tmp d6) (.tmp d5), y7, p7, #[⟨6, .data⟩, ⟨5, .data⟩, ⟨5, .chain⟩, ⟨0, .phase⟩, ⟨1, .phase⟩, ⟨2, .phase⟩, ⟨3, .phase⟩, ⟨4, .phase⟩, ⟨5, .phase⟩], none⟩] true) bx o ety sz e E oke := by
  intro x v a w B done cs y xb T' hL hbx hxb hfr hcs hT hok hlen
  simp only [Bool.and_eq_true, List.all_eq_true, decide_eq_true_eq, bne_iff_ne, Bool.not_eq_true', List.contains_eq_mem, decide_eq_false_iff_not] at hs
  obtain ⟨⟨hdl, hnd⟩, htl⟩ := hs
  have hA := hL.fa
  obtain ⟨C, t, g, cap, lrow, h1, h2, h3, h4⟩ := hL.mem
  obtain ⟨l1, l2, l3, l4, l5⟩ := hL.lo
  obtain ⟨ov, hov⟩ : ∃ ov, ov = Value.slice (some ⟨g, 0, none⟩) done.length cap := ⟨_, rfl⟩
  have hob : ∀ k, ov.ownBlock = some k -> k = g := fun k hk => by rw [hov] at hk; simpa [Value.ownBlock] using hk.symm
  have hgB : B <= g /\ g < w.heap.size := h4.own.lt g rfl
  have hnwS : ∀ k, x.nw w k -> ¬ (ov.ownBlock = some k) := fun k hk e => by have := hob k e; rcases hk with hk | hk <;> omega
  have hMx : ∀ W, Mod (fun k => ov.ownBlock = some k) w W -> Mod none' x.w0 W := fun W hm => hA.mod.trans' hm (fun _ _ f => f) (fun j hj e => by have := hob j e; omega)
  have hsN : ∀ d ∈ [d0, d1, d2, d3, d4, d5], d < a.tmps.size := fun d hd => hA.lt (hdl d hd).1
  have hs0 : Γ.s ∉ [d0, d1, d2, d3, d4, d5] := fun h => (Fl.free_spec (hdl _ h).1).2.2 rfl
  have htb0 : Γ.tb ∉ [d0, d1, d2, d3, d4, d5] := fun h => (Fl.free_spec (hdl _ h).1).2.1 rfl
  have hrs0 : ∀ q, Γ.r = some q -> q ∉ [d0, d1, d2, d3, d4, d5] := fun q hq h => (Fl.free_all (hdl _ h).1).2.2.2 hq
  have hbx0 : bx ∉ [d0, d1, d2, d3, d4, d5] := fun h => (hdl _ h).2 rfl
  refine region_rlq (l := [_, _, _, _, _, _]) (tl := [_, _]) hord (Mod (fun k => ov.ownBlock = some k)) (fun a b h => h.none) (fun _ _ _ h h' => h.trans h') [d0, d1, d2, d3, d4, d5]
    [fun v _ => v = .pointer (some ⟨x.blk, 0 + o, none⟩),
     fun v _ => v = .slice (some ⟨g, 0, none⟩) done.length cap,
     fun v _ => v = .agg cs,
     fun v w' => RepS w' (x.nw w) ety v (E y),
     fun v w' => ∃ nb ms, v = .slice (some ⟨nb, 0, none⟩) 1 1 /\ w'.heap[nb]? = some (.cells ms e (0, 0)) /\ w.heap.size <= nb /\ ms.size = sz /\ ms.all (·.oneCell') = true /\ Rep w' (x.nw w) ety (from' ms 0) (E y)]
    (fun v w' => ∃ lrow', RowG (fun w F c (t : Tr) => Rep w F ety c t) e sz B (fun k => x.F k /\ k < B) w' v lrow' (done ++ [E y]) /\ ∃ g cap, v = .slice (some ⟨g, 0, none⟩) (done ++ [E y]).length cap)
    ?_ ?_ (by simp [regFormT]) hnd hsN (by simp) (by kernel_rfl) ⟨?_, ?_, ?_, ?_, ?_, ?_, trivial⟩ ?_
  · intro g' hg u1 w1 w2 hv hr'
    simp only [List.mem_cons, List.not_mem_nil, or_false] at hg
    rcases hg with rfl | rfl | rfl | rfl | rfl
    · exact hv
    · exact hv
    · exact hv
    · exact RepS.mod hv hr' hnwS (fun _ h => h)
    · obtain ⟨nb, ms, q1, q2, q3, q4, q5, q6⟩ := hv
      exact ⟨nb, ms, q1, hr'.some q2 (fun e => by have := hob nb e; omega), q3, q4, q5, q6.mod hr' hnwS (fun _ h => h)⟩
  · rintro u1 w1 w2 ⟨lr, q1, q2⟩ hr'
    exact ⟨lr, q1.grow (rep_ok hr hsz) hr', q2⟩
  · intro a1 w1 hr' hp hs hd
    have q := (hs.get Γ.s hs0).trans hA.ptr
    exact Zw (Za hf (b := x.blk) (o0 := 0) (by rw [Ze]; exact q)) ⟨_, rfl, relp_ne (by rfl) (.refl _), rfl⟩
  · intro a1 w1 hr' hp hs hd
    have q : Act.get a1 d0 = .pointer (some ⟨x.blk, 0 + o, none⟩) := hd ⟨0, .data⟩ (by simp) rfl
    have c1 := hr'.some h1 (fun e => by have := hob _ e; omega)
    exact Zw (Zl hone (b := x.blk) (o := 0 + o) (by rw [Ze]; exact q) (by rw [Zc c1]; exact h2)) ⟨_, rfl, relp_ne (by rfl) (.refl _), rfl⟩
  · intro a1 w1 hr' hp hs hd
    have q := (hs.get bx hbx0).trans hbx
    have hxg : xb ≠ g := hfr C t g cap h1 h2
    have c1 := hr'.some hxb (fun e => hxg (hob _ e))
    exact Zw (x_loadN (cs := cs.toList) (b := xb) (o := 0) (by rw [Array.length_toList, hcs]; exact hmT) (by rw [Ze]; exact q) (fun j v hv => by rw [Zc c1, Nat.zero_add]; simpa using hv)) ⟨_, rfl, relp_ne (by rfl) (.refl _), by simp⟩
  · intro a1 w1 hr' hp hs hd
    have q : Act.get a1 d2 = .agg cs := hd ⟨2, .data⟩ (by simp) rfl
    have ee : (#[Operand.tmp d2] : Array Operand).map a1.eval = #[.agg cs] := by simp [Ze, q]
    refine owp_call (Zy hbd rfl) (by rw [ee]; exact hm x.w0 w1 cs y (hMx w1 hr') hcs hT hok) ?_
    rintro e' w2 ⟨v2, rfl, hm2, hrep⟩
    exact ⟨_, rfl, _, rfl, relp_ne (by rfl) hm2, hrep.mod (Mod.refl (S := none') w2) (fun _ _ f => f) (fun k hk => Fx.nw_mono (x := x) hr'.size hk)⟩
  · intro a1 w1 hr' hp hs hd
    have q : RepS w1 (x.nw w) ety (Act.get a1 d3) (E y) := hd ⟨3, .data⟩ (by simp) rfl
    obtain ⟨c1, c2, c3⟩ := q.cells hr
    refine Zw (x_buildSlice1 (v := Act.get a1 d3) hI (Ze _) (c1.trans hsz)) ⟨_, rfl, relp_ne (by rfl) ((Mod.refl w1).alloc _), w1.heap.size, _, rfl, Zh w1 _, hr'.size, c1.trans hsz, c2, c3.mod (S := none') ((Mod.refl w1).alloc _) (fun _ _ f => f) (fun _ h => h)⟩
  · intro a1 w1 hr' hp hs hd
    have q4 : Act.get a1 d1 = .slice (some ⟨g, 0, none⟩) done.length cap := hd ⟨1, .data⟩ (by simp) rfl
    obtain ⟨nb, ms, q5, q6, q7, q8, q9, q10⟩ : ∃ nb ms, Act.get a1 d4 = .slice (some ⟨nb, 0, none⟩) 1 1 /\ w1.heap[nb]? = some (.cells ms e (0, 0)) /\ w.heap.size <= nb /\ ms.size = sz /\ ms.all (·.oneCell') = true /\ Rep w1 (x.nw w) ety (from' ms 0) (E y) := hd ⟨4, .data⟩ (by simp) rfl
    have hpm := hp rfl
    have hG1 := h4.grow (rep_ok hr hsz) hpm
    obtain ⟨v', w2, hrun, k1, k2, k3, k4⟩ := x_append (P := P) (ρ := a1.eval) (w := w1) (d := some d5) (ty := y5) (p := p5) (af := #[⟨1, .data⟩, ⟨4, .data⟩, ⟨3, .chain⟩]) (g := none) (s := .tmp d1) (x := .tmp d4) (base := B) (n := done.length) (xs := lrow) (ad := ⟨nb, 0, none⟩) (m := 1) (c := 1) (news := ms.toList) hI (by rw [Ze]; exact q4) (by rw [Ze]; exact q5) hG1.own (by simp [q8]) (fun j u hu => by rw [Addr.add_mid, Zc q6, Nat.zero_add]; simpa using hu) (fun u hu => Array.all_eq_true_iff_forall_mem.1 q9 u (by simpa using hu)) (by omega) (by have := hpm.size; omega)
    have hps := hpm.size
    refine Zw hrun ⟨_, rfl, relp_eq (by rw [hov]; exact k2), lrow ++ ms.toList, hG1.push (rep_ok hr hsz) k2 (by simpa using k1) (by simp [q8]) k4 ?_, ?_⟩
    · have hlt := Rep.lt ety _ _ q10
      refine Rep.mod (Mod.refl (S := none') w1) (fun _ _ f => f) (fun k hk => ?_) _ _ _ (Rep.congr ety _ _ _ hr (fun j hj => by simp [from', List.getD_eq_getElem?_getD]) hlt)
      have hk1 := hk.1
      refine ⟨?_, fun e => ?_, hk.2⟩
      · rcases hk1 with hk1 | hk1
        · exact .inl ⟨⟨.inl hk1, by have := hA.lo; omega, by have := hA.lo; omega⟩, by omega⟩
        · exact .inr (by omega)
      · have e' : g = k := by simpa [Value.ownBlock] using e
        rcases hk1 with hk1 | hk1 <;> omega
    · rcases k1.2 with ⟨_, h0⟩ | ⟨g2, cap2, _, hv2, _⟩
      · omega
      · exact ⟨g2, cap2, by rw [hv2]; simp⟩
  · intro a1 w1 hr' hs hh
    obtain ⟨lrow', q1, q2⟩ : ∃ lrow', RowG (fun w F c (t : Tr) => Rep w F ety c t) e sz B (fun k => x.F k /\ k < B) w1 (Act.get a1 d5) lrow' (done ++ [E y]) /\ ∃ g cap, Act.get a1 d5 = .slice (some ⟨g, 0, none⟩) (done ++ [E y]).length cap := hh 5 (by simp)
    have sN : ∀ d, Γ.free d = true -> d < a1.tmps.size := fun d hd => by rw [hs.size]; exact hA.lt hd
    have hA1 : FA Γ x a1 w1 := (hA.same hs htb0 hs0 hrs0).world hr' (fun k e => by have := hob k e; subst this; exact ⟨by omega, by omega, by omega⟩)
    have c1 := hr'.some h1 (fun e => by have := hob _ e; omega)
    have fd6 := htl d6 (by simp)
    refine Zv rfl (Za hf (b := x.blk) (o0 := 0) (by rw [Ze]; exact hA1.ptr)) ?_
    have hone' : (Act.get a1 d5).oneCell' = true := by obtain ⟨_, _, e⟩ := q2; rw [e]; rfl
    refine wpl_skip rfl (x_store1 hsz1 (b := x.blk) (o := 0 + o) (v := Act.get a1 d5) (u := .slice (some ⟨g, 0, none⟩) done.length cap) ?_ ?_ hone' (by rw [Zc c1]; exact h2) (Zz c1)) (wpList_nil ⟨rfl, ?_, ?_⟩)
    · rw [Ze, Zq (sN _ fd6.1)]
    · rw [Ze, Zn (fun e => fd6.2 (by simp [<- e]))]
    · rw [Zo]
      exact hL.push hot hr hsz h1 h2 (hr'.mono fun k _ e => by have := hob k e; subst this; exact ⟨rfl, hgB.1⟩) q1 q2 (hA1.put fd6.1 _)
    · rw [Zo]
      refine ((hs.mono fun t ht => ?_).put ?_ _)
      · simp only [List.mem_cons, List.not_mem_nil, or_false] at ht
        rcases ht with rfl | rfl | rfl | rfl | rfl | rfl <;> simp [W, writes]
      · simp [W, writes]
end
end Go.Proofs.YtmehfgiadapekaaGreat
