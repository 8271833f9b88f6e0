/-
  Rules for the code that sets a list (FnMake): one thing more.
  Rules for the code that sets a message's fields (FnMake): lists, tags, one field after another, the whole.
-/
import Derived.Test.YtmehfgiadapekaaPZl
set_option linter.unusedSimpArgs false
set_option linter.unusedVariables false
namespace Go.Proofs.Ytmehfgiadapekaa
open Go Go.RowKit
theorem RepS.cells {w : World} {F : Nat -> Prop} {ety : Ty} {v : Value} {t : Tr} (h : RepS w F ety v t) (hr : ety.ok = true) : v.cells.size = ety.size /\ v.cells.all (·.oneCell') = true /\ Rep w F ety (from' v.cells 0) t := by
 rcases h with ⟨h1, h2, h3⟩ | ⟨cs, rfl, h2, h3, h4⟩
 ·have hc : v.cells = #[v] := one_cells h2
  rw [hc]
  refine ⟨by simp [h1], by simp [h2], Rep.congr ety _ _ _ hr (fun j hj => ?_) h3⟩
  have : j = 0 := by omega
  subst this
  rfl
 ·exact ⟨h2, h3, h4⟩
section
variable {P : Program} {Γ : Fl} {σ : St} {o k sz e T TT LT fm bx d0 d1 d2 d3 d4 d5 d6 d7 d8 d9 d10 : Nat} {ety : Ty} {E : Tr -> Tr} {oke : Tr -> Prop} {id : Nat}
 {y0 y1 y2 y3 y4 y5 y6 y7 y8 y9 y10 y11 : TypeId} {p0 p1 p2 p3 p4 p5 p6 p7 p8 p9 p10 p11 : String} {ts : Array TypeId}
set_option maxHeartbeats 1000000 in
/-- one thing is put behind, by a pointer that is held against nil -/
theorem app_fill (hord : P.follows .mixedOrders = true) (hmT : many P TT 5 = true) (hm : ValC P fm ety E oke) (hbd : bodied P fm = true) (hI : elemInfo P LT e sz = true) (hone : one P LT = true) (hsz1 : sized P LT 1 = true) (hot : Γ.off o 1 = true) (hf : fieldOff P T k = some o) (hr : ety.ok = true) (hsz : ety.size = sz)
    (hs : ([d0, d1, d2, d3, d4, d5, d6, d7, d8].all (fun d => Γ.free d && d != bx) && decide ([d0, d1, d2, d3, d4, d5, d6, d7, d8] : List Nat).Nodup && [d9, d10].all (fun d => Γ.free d && !([d0, d1, d2, d3, d4, d5, d6, d7, d8] : List Nat).contains d) && d9 != d10) = true) :
    AppE P Γ σ (.region id #[⟨some d0, .move (.tmp Γ.s), y0, p0, #[], none⟩,
      ⟨some d1, .move (.tmp Γ.s), y1, p1, #[], none⟩,
      ⟨some d2, .nilCheck (.tmp d1), y2, p2, #[⟨1, .data⟩], none⟩,
      ⟨some d3, .fieldAddr T (.tmp d2) k, y3, p3, #[⟨2, .data⟩], none⟩,
      ⟨some d4, .load LT (.tmp d3), y4, p4, #[⟨3, .data⟩], none⟩,
      ⟨some d5, .load TT (.tmp bx), y5, p5, #[], none⟩,
      ⟨some d6, .call ⟨.value (.func fm), #[.tmp d5], ts⟩, y6, p6, #[⟨5, .data⟩], none⟩,
      ⟨some d7, .buildSlice LT 1 #[(0, .tmp d6)], y7, p7, #[⟨6, .data⟩], none⟩,
      ⟨some d8, .call ⟨.builtin .append, #[.tmp d4, .tmp d7], #[LT, LT]⟩, y8, p8, #[⟨4, .data⟩, ⟨7, .data⟩, ⟨6, .chain⟩], none⟩,
      ⟨some d9, .nilCheck (.tmp d0), y9, p9, #[⟨0, .data⟩, ⟨0, .phase⟩, ⟨1, .phase⟩, ⟨2, .phase⟩, ⟨3, .phase⟩, ⟨4, .phase⟩, ⟨5, .phase⟩, ⟨6, .phase⟩, ⟨7, .phase⟩, ⟨8, .phase⟩], none⟩,
      ⟨some d10, .fieldAddr T (.tmp d9) k, y10, p10, #[⟨9, .data⟩, ⟨0, .phase⟩, ⟨1, .phase⟩, ⟨2, .phase⟩, ⟨3, .phase⟩, ⟨4, .phase⟩, ⟨5, .phase⟩, ⟨6, .phase⟩, ⟨7, .phase⟩, ⟨8, .phase⟩], none⟩,
      ⟨none, .store LT (.tmp d10) (.tmp d8), y11, p11, #[⟨10, .data⟩, ⟨8, .data⟩, ⟨8, .chain⟩, ⟨0, .phase⟩, ⟨1, .phase⟩, ⟨2, .phase⟩, ⟨3, .phase⟩, ⟨4, .phase⟩, ⟨5, .phase⟩, ⟨6, .phase⟩, ⟨7, .phase⟩, ⟨8, .phase⟩], none⟩] true) bx o ety sz e E oke := by
  intro x v a w B done cs y xb T' hL hbx hxb hfr hcs hT hok hlen
  simp only [Bool.and_eq_true, List.all_eq_true, decide_eq_true_eq, bne_iff_ne, Bool.not_eq_true', List.contains_eq_mem, decide_eq_false_iff_not] at hs
  obtain ⟨⟨⟨hdl, hnd⟩, htl⟩, n910⟩ := hs
  have hA := hL.fa
  obtain ⟨C, t, g, cap, lrow, h1, h2, h3, h4⟩ := hL.mem
  obtain ⟨l1, l2, l3, l4, l5⟩ := hL.lo
  obtain ⟨ov, hov⟩ : ∃ ov, ov = Value.slice (some ⟨g, 0, none⟩) done.length cap := ⟨_, rfl⟩
  have hob : ∀ k, ov.ownBlock = some k -> k = g := fun k hk => by rw [hov] at hk; simpa [Value.ownBlock] using hk.symm
  have hgB : B <= g /\ g < w.heap.size := h4.own.lt g rfl
  have hnwS : ∀ k, x.nw w k -> ¬ (ov.ownBlock = some k) := fun k hk e => by have := hob k e; rcases hk with hk | hk <;> omega
  have hMx : ∀ W, Mod (fun k => ov.ownBlock = some k) w W -> Mod none' x.w0 W := fun W hm => hA.mod.trans' hm (fun _ _ f => f) (fun j hj e => by have := hob j e; omega)
  have hsN : ∀ d ∈ [d0, d1, d2, d3, d4, d5, d6, d7, d8], d < a.tmps.size := fun d hd => hA.lt (hdl d hd).1
  have hs0 : Γ.s ∉ [d0, d1, d2, d3, d4, d5, d6, d7, d8] := fun h => (Fl.free_spec (hdl _ h).1).2.2 rfl
  have htb0 : Γ.tb ∉ [d0, d1, d2, d3, d4, d5, d6, d7, d8] := fun h => (Fl.free_spec (hdl _ h).1).2.1 rfl
  have hrs0 : ∀ q, Γ.r = some q -> q ∉ [d0, d1, d2, d3, d4, d5, d6, d7, d8] := fun q hq h => (Fl.free_all (hdl _ h).1).2.2.2 hq
  have hbx0 : bx ∉ [d0, d1, d2, d3, d4, d5, d6, d7, d8] := fun h => (hdl _ h).2 rfl
  refine region_rlq (l := [_, _, _, _, _, _, _, _, _]) (tl := [_, _, _]) hord (Mod (fun k => ov.ownBlock = some k)) (fun a b h => h.none) (fun _ _ _ h h' => h.trans h') [d0, d1, d2, d3, d4, d5, d6, d7, d8]
    [fun v _ => v = .pointer (some ⟨x.blk, 0, none⟩),
     fun v _ => v = .pointer (some ⟨x.blk, 0, none⟩),
     fun v _ => v = .pointer (some ⟨x.blk, 0, none⟩),
     fun v _ => v = .pointer (some ⟨x.blk, 0 + o, none⟩),
     fun v _ => v = .slice (some ⟨g, 0, none⟩) done.length cap,
     fun v _ => v = .agg cs,
     fun v w' => RepS w' (x.nw w) ety v (E y),
     fun v w' => ∃ nb ms, v = .slice (some ⟨nb, 0, none⟩) 1 1 /\ w'.heap[nb]? = some (.cells ms e (0, 0)) /\ w.heap.size <= nb /\ ms.size = sz /\ ms.all (·.oneCell') = true /\ Rep w' (x.nw w) ety (from' ms 0) (E y)]
    (fun v w' => ∃ lrow', RowG (fun w F c (t : Tr) => Rep w F ety c t) e sz B (fun k => x.F k /\ k < B) w' v lrow' (done ++ [E y]) /\ ∃ g cap, v = .slice (some ⟨g, 0, none⟩) (done ++ [E y]).length cap)
    ?_ ?_ (by simp [regFormT]) hnd hsN (by simp) (by kernel_rfl) ⟨?_, ?_, ?_, ?_, ?_, ?_, ?_, ?_, ?_, trivial⟩ ?_
  · intro g' hg u1 w1 w2 hv hr'
    simp only [List.mem_cons, List.not_mem_nil, or_false] at hg
    rcases hg with rfl | rfl | rfl | rfl | rfl | rfl | rfl | rfl
    · exact hv
    · exact hv
    · exact hv
    · exact hv
    · exact hv
    · exact hv
    · exact RepS.mod hv hr' hnwS (fun _ h => h)
    · obtain ⟨nb, ms, q1, q2, q3, q4, q5, q6⟩ := hv
      exact ⟨nb, ms, q1, hr'.some q2 (fun e => by have := hob nb e; omega), q3, q4, q5, q6.mod hr' hnwS (fun _ h => h)⟩
  · rintro u1 w1 w2 ⟨lr, q1, q2⟩ hr'
    exact ⟨lr, q1.grow (rep_ok hr hsz) hr', q2⟩
  · intro a1 w1 hr' hp hs hd
    have t1 := (hs.get Γ.s hs0).trans hA.ptr
    exact Zw (x_moveV t1) ⟨_, rfl, relp_ne (by rfl) (.refl _), rfl⟩
  · intro a1 w1 hr' hp hs hd
    have t1 := (hs.get Γ.s hs0).trans hA.ptr
    exact Zw (x_moveV t1) ⟨_, rfl, relp_ne (by rfl) (.refl _), rfl⟩
  · intro a1 w1 hr' hp hs hd
    have q : Act.get a1 d1 = .pointer (some ⟨x.blk, 0, none⟩) := hd ⟨1, .data⟩ (by simp) rfl
    exact Zw (x_nilCheck (q := ⟨x.blk, 0, none⟩) (by rw [Ze]; exact q)) ⟨_, rfl, relp_ne (by rfl) (.refl _), rfl⟩
  · intro a1 w1 hr' hp hs hd
    have q : Act.get a1 d2 = .pointer (some ⟨x.blk, 0, none⟩) := hd ⟨2, .data⟩ (by simp) rfl
    exact Zw (Za hf (b := x.blk) (o0 := 0) (by rw [Ze]; exact q)) ⟨_, rfl, relp_ne (by rfl) (.refl _), rfl⟩
  · intro a1 w1 hr' hp hs hd
    have q : Act.get a1 d3 = .pointer (some ⟨x.blk, 0 + o, none⟩) := hd ⟨3, .data⟩ (by simp) rfl
    have c1 := hr'.some h1 (fun e => by have := hob _ e; omega)
    exact Zw (Zl hone (b := x.blk) (o := 0 + o) (by rw [Ze]; exact q) (by rw [Zc c1]; exact h2)) ⟨_, rfl, relp_ne (by rfl) (.refl _), rfl⟩
  · intro a1 w1 hr' hp hs hd
    have q := (hs.get bx hbx0).trans hbx
    have hxg : xb ≠ g := hfr C t g cap h1 h2
    have c1 := hr'.some hxb (fun e => hxg (hob _ e))
    exact Zw (x_loadN (cs := cs.toList) (b := xb) (o := 0) (by rw [Array.length_toList, hcs]; exact hmT) (by rw [Ze]; exact q) (fun j v hv => by rw [Zc c1, Nat.zero_add]; simpa using hv)) ⟨_, rfl, relp_ne (by rfl) (.refl _), by simp⟩
  · intro a1 w1 hr' hp hs hd
    have q : Act.get a1 d5 = .agg cs := hd ⟨5, .data⟩ (by simp) rfl
    have ee : (#[Operand.tmp d5] : Array Operand).map a1.eval = #[.agg cs] := by simp [Ze, q]
    refine owp_call (Zy hbd rfl) (by rw [ee]; exact hm x.w0 w1 cs y (hMx w1 hr') hcs hT hok) ?_
    rintro e' w2 ⟨v2, rfl, hm2, hrep⟩
    exact ⟨_, rfl, _, rfl, relp_ne (by rfl) hm2, hrep.mod (Mod.refl (S := none') w2) (fun _ _ f => f) (fun k hk => Fx.nw_mono (x := x) hr'.size hk)⟩
  · intro a1 w1 hr' hp hs hd
    have q : RepS w1 (x.nw w) ety (Act.get a1 d6) (E y) := hd ⟨6, .data⟩ (by simp) rfl
    obtain ⟨c1, c2, c3⟩ := q.cells hr
    refine Zw (x_buildSlice1 (v := Act.get a1 d6) hI (Ze _) (c1.trans hsz)) ⟨_, rfl, relp_ne (by rfl) ((Mod.refl w1).alloc _), w1.heap.size, _, rfl, Zh w1 _, hr'.size, c1.trans hsz, c2, c3.mod (S := none') ((Mod.refl w1).alloc _) (fun _ _ f => f) (fun _ h => h)⟩
  · intro a1 w1 hr' hp hs hd
    have q4 : Act.get a1 d4 = .slice (some ⟨g, 0, none⟩) done.length cap := hd ⟨4, .data⟩ (by simp) rfl
    obtain ⟨nb, ms, q5, q6, q7, q8, q9, q10⟩ : ∃ nb ms, Act.get a1 d7 = .slice (some ⟨nb, 0, none⟩) 1 1 /\ w1.heap[nb]? = some (.cells ms e (0, 0)) /\ w.heap.size <= nb /\ ms.size = sz /\ ms.all (·.oneCell') = true /\ Rep w1 (x.nw w) ety (from' ms 0) (E y) := hd ⟨7, .data⟩ (by simp) rfl
    have hpm := hp rfl
    have hG1 := h4.grow (rep_ok hr hsz) hpm
    obtain ⟨v', w2, hrun, k1, k2, k3, k4⟩ := x_append (P := P) (ρ := a1.eval) (w := w1) (d := some d8) (ty := y8) (p := p8) (af := #[⟨4, .data⟩, ⟨7, .data⟩, ⟨6, .chain⟩]) (g := none) (s := .tmp d4) (x := .tmp d7) (base := B) (n := done.length) (xs := lrow) (ad := ⟨nb, 0, none⟩) (m := 1) (c := 1) (news := ms.toList) hI (by rw [Ze]; exact q4) (by rw [Ze]; exact q5) hG1.own (by simp [q8]) (fun j u hu => by rw [Addr.add_mid, Zc q6, Nat.zero_add]; simpa using hu) (fun u hu => Array.all_eq_true_iff_forall_mem.1 q9 u (by simpa using hu)) (by omega) (by have := hpm.size; omega)
    have hps := hpm.size
    refine Zw hrun ⟨_, rfl, relp_eq (by rw [hov]; exact k2), lrow ++ ms.toList, hG1.push (rep_ok hr hsz) k2 (by simpa using k1) (by simp [q8]) k4 ?_, ?_⟩
    · have hlt := Rep.lt ety _ _ q10
      refine Rep.mod (Mod.refl (S := none') w1) (fun _ _ f => f) (fun k hk => ?_) _ _ _ (Rep.congr ety _ _ _ hr (fun j hj => by simp [from', List.getD_eq_getElem?_getD]) hlt)
      have hk1 := hk.1
      refine ⟨?_, fun e => ?_, hk.2⟩
      · rcases hk1 with hk1 | hk1
        · exact .inl ⟨⟨.inl hk1, by have := hA.lo; omega, by have := hA.lo; omega⟩, by omega⟩
        · exact .inr (by omega)
      · have e' : g = k := by simpa [Value.ownBlock] using e
        rcases hk1 with hk1 | hk1 <;> omega
    · rcases k1.2 with ⟨_, h0⟩ | ⟨g2, cap2, _, hv2, _⟩
      · omega
      · exact ⟨g2, cap2, by rw [hv2]; simp⟩
  · intro a1 w1 hr' hs hh
    obtain ⟨lrow', q1, q2⟩ : ∃ lrow', RowG (fun w F c (t : Tr) => Rep w F ety c t) e sz B (fun k => x.F k /\ k < B) w1 (Act.get a1 d8) lrow' (done ++ [E y]) /\ ∃ g cap, Act.get a1 d8 = .slice (some ⟨g, 0, none⟩) (done ++ [E y]).length cap := hh 8 (by simp)
    have sN : ∀ d, Γ.free d = true -> d < a1.tmps.size := fun d hd => by rw [hs.size]; exact hA.lt hd
    have hA1 : FA Γ x a1 w1 := (hA.same hs htb0 hs0 hrs0).world hr' (fun k e => by have := hob k e; subst this; exact ⟨by omega, by omega, by omega⟩)
    have c1 := hr'.some h1 (fun e => by have := hob _ e; omega)
    have fd9 := htl d9 (by simp)
    have fd10 := htl d10 (by simp)
    have q0 : Act.get a1 d0 = .pointer (some ⟨x.blk, 0, none⟩) := hh 0 (by simp)
    refine Zv rfl (x_nilCheck (q := ⟨x.blk, 0, none⟩) (by rw [Ze]; exact q0)) (Zv rfl (Za hf (b := x.blk) (o0 := 0) ?_) ?_)
    · rw [Ze, Zq (sN _ fd9.1)]
    have hone' : (Act.get a1 d8).oneCell' = true := by obtain ⟨_, _, e⟩ := q2; rw [e]; rfl
    refine wpl_skip rfl (x_store1 hsz1 (b := x.blk) (o := 0 + o) (v := Act.get a1 d8) (u := .slice (some ⟨g, 0, none⟩) done.length cap) ?_ ?_ hone' (by rw [Zc c1]; exact h2) (Zz c1)) (wpList_nil ⟨rfl, ?_, ?_⟩)
    · rw [Ze, Zq (by rw [Zs]; exact sN _ fd10.1)]
    · rw [Ze, Zn (fun e => fd10.2 (by simp [<- e])), Zn (fun e => fd9.2 (by simp [<- e]))]
    · rw [Zo]
      exact hL.push hot hr hsz h1 h2 (hr'.mono fun k _ e => by have := hob k e; subst this; exact ⟨rfl, hgB.1⟩) q1 q2 ((hA1.put fd9.1 _).put fd10.1 _)
    · rw [Zo]
      refine (((hs.mono fun t ht => ?_).put ?_ _).put ?_ _)
      · simp only [List.mem_cons, List.not_mem_nil, or_false] at ht
        rcases ht with rfl | rfl | rfl | rfl | rfl | rfl | rfl | rfl | rfl <;> simp [W, writes]
      all_goals simp [W, writes]
set_option maxHeartbeats 1000000 in
/-- one thing is put behind -/
theorem app_make (hord : P.follows .mixedOrders = true) (hmT : many P TT 5 = true) (hm : ValC P fm ety E oke) (hbd : bodied P fm = true) (hI : elemInfo P LT e sz = true) (hone : one P LT = true) (hsz1 : sized P LT 1 = true) (hot : Γ.off o 1 = true) (hf : fieldOff P T k = some o) (hr : ety.ok = true) (hsz : ety.size = sz)
    (hs : ([d0, d1, d2, d3, d4, d5].all (fun d => Γ.free d && d != bx) && decide ([d0, d1, d2, d3, d4, d5] : List Nat).Nodup && [d6].all (fun d => Γ.free d && !([d0, d1, d2, d3, d4, d5] : List Nat).contains d)) = true) :
    AppE P Γ σ (.region id #[⟨some d0, .fieldAddr T (.tmp Γ.s) k, y0, p0, #[], none⟩,
      ⟨some d1, .load LT (.tmp d0), y1, p1, #[⟨0, .data⟩], none⟩,
      ⟨some d2, .load TT (.tmp bx), y2, p2, #[], none⟩,
      ⟨some d3, .call ⟨.value (.func fm), #[.tmp d2], ts⟩, y3, p3, #[⟨2, .data⟩], none⟩,
      ⟨some d4, .buildSlice LT 1 #[(0, .tmp d3)], y4, p4, #[⟨3, .data⟩], none⟩,
      ⟨some d5, .call ⟨.builtin .append, #[.tmp d1, .tmp d4], #[LT, LT]⟩, y5, p5, #[⟨1, .data⟩, ⟨4, .data⟩, ⟨3, .chain⟩], none⟩,
      ⟨some d6, .fieldAddr T (.tmp Γ.s) k, y6, p6, #[⟨0, .phase⟩, ⟨1, .phase⟩, ⟨2, .phase⟩, ⟨3, .phase⟩, ⟨4, .phase⟩, ⟨5, .phase⟩], none⟩,
      ⟨none, .store LT (.tmp d6) (.tmp d5), y7, p7, #[⟨6, .data⟩, ⟨5, .data⟩, ⟨5, .chain⟩, ⟨0, .phase⟩, ⟨1, .phase⟩, ⟨2, .phase⟩, ⟨3, .phase⟩, ⟨4, .phase⟩, ⟨5, .phase⟩], none⟩] true) bx o ety sz e E oke := by
  intro x v a w B done cs y xb T' hL hbx hxb hfr hcs hT hok hlen
  simp only [Bool.and_eq_true, List.all_eq_true, decide_eq_true_eq, bne_iff_ne, Bool.not_eq_true', List.contains_eq_mem, decide_eq_false_iff_not] at hs
  obtain ⟨⟨hdl, hnd⟩, htl⟩ := hs
  have hA := hL.fa
  obtain ⟨C, t, g, cap, lrow, h1, h2, h3, h4⟩ := hL.mem
  obtain ⟨l1, l2, l3, l4, l5⟩ := hL.lo
  obtain ⟨ov, hov⟩ : ∃ ov, ov = Value.slice (some ⟨g, 0, none⟩) done.length cap := ⟨_, rfl⟩
  have hob : ∀ k, ov.ownBlock = some k -> k = g := fun k hk => by rw [hov] at hk; simpa [Value.ownBlock] using hk.symm
  have hgB : B <= g /\ g < w.heap.size := h4.own.lt g rfl
  have hnwS : ∀ k, x.nw w k -> ¬ (ov.ownBlock = some k) := fun k hk e => by have := hob k e; rcases hk with hk | hk <;> omega
  have hMx : ∀ W, Mod (fun k => ov.ownBlock = some k) w W -> Mod none' x.w0 W := fun W hm => hA.mod.trans' hm (fun _ _ f => f) (fun j hj e => by have := hob j e; omega)
  have hsN : ∀ d ∈ [d0, d1, d2, d3, d4, d5], d < a.tmps.size := fun d hd => hA.lt (hdl d hd).1
  have hs0 : Γ.s ∉ [d0, d1, d2, d3, d4, d5] := fun h => (Fl.free_spec (hdl _ h).1).2.2 rfl
  have htb0 : Γ.tb ∉ [d0, d1, d2, d3, d4, d5] := fun h => (Fl.free_spec (hdl _ h).1).2.1 rfl
  have hrs0 : ∀ q, Γ.r = some q -> q ∉ [d0, d1, d2, d3, d4, d5] := fun q hq h => (Fl.free_all (hdl _ h).1).2.2.2 hq
  have hbx0 : bx ∉ [d0, d1, d2, d3, d4, d5] := fun h => (hdl _ h).2 rfl
  refine region_rlq (l := [_, _, _, _, _, _]) (tl := [_, _]) hord (Mod (fun k => ov.ownBlock = some k)) (fun a b h => h.none) (fun _ _ _ h h' => h.trans h') [d0, d1, d2, d3, d4, d5]
    [fun v _ => v = .pointer (some ⟨x.blk, 0 + o, none⟩),
     fun v _ => v = .slice (some ⟨g, 0, none⟩) done.length cap,
     fun v _ => v = .agg cs,
     fun v w' => RepS w' (x.nw w) ety v (E y),
     fun v w' => ∃ nb ms, v = .slice (some ⟨nb, 0, none⟩) 1 1 /\ w'.heap[nb]? = some (.cells ms e (0, 0)) /\ w.heap.size <= nb /\ ms.size = sz /\ ms.all (·.oneCell') = true /\ Rep w' (x.nw w) ety (from' ms 0) (E y)]
    (fun v w' => ∃ lrow', RowG (fun w F c (t : Tr) => Rep w F ety c t) e sz B (fun k => x.F k /\ k < B) w' v lrow' (done ++ [E y]) /\ ∃ g cap, v = .slice (some ⟨g, 0, none⟩) (done ++ [E y]).length cap)
    ?_ ?_ (by simp [regFormT]) hnd hsN (by simp) (by kernel_rfl) ⟨?_, ?_, ?_, ?_, ?_, ?_, trivial⟩ ?_
  · intro g' hg u1 w1 w2 hv hr'
    simp only [List.mem_cons, List.not_mem_nil, or_false] at hg
    rcases hg with rfl | rfl | rfl | rfl | rfl
    · exact hv
    · exact hv
    · exact hv
    · exact RepS.mod hv hr' hnwS (fun _ h => h)
    · obtain ⟨nb, ms, q1, q2, q3, q4, q5, q6⟩ := hv
      exact ⟨nb, ms, q1, hr'.some q2 (fun e => by have := hob nb e; omega), q3, q4, q5, q6.mod hr' hnwS (fun _ h => h)⟩
  · rintro u1 w1 w2 ⟨lr, q1, q2⟩ hr'
    exact ⟨lr, q1.grow (rep_ok hr hsz) hr', q2⟩
  · intro a1 w1 hr' hp hs hd
    have q := (hs.get Γ.s hs0).trans hA.ptr
    exact Zw (Za hf (b := x.blk) (o0 := 0) (by rw [Ze]; exact q)) ⟨_, rfl, relp_ne (by rfl) (.refl _), rfl⟩
  · intro a1 w1 hr' hp hs hd
    have q : Act.get a1 d0 = .pointer (some ⟨x.blk, 0 + o, none⟩) := hd ⟨0, .data⟩ (by simp) rfl
    have c1 := hr'.some h1 (fun e => by have := hob _ e; omega)
    exact Zw (Zl hone (b := x.blk) (o := 0 + o) (by rw [Ze]; exact q) (by rw [Zc c1]; exact h2)) ⟨_, rfl, relp_ne (by rfl) (.refl _), rfl⟩
  · intro a1 w1 hr' hp hs hd
    have q := (hs.get bx hbx0).trans hbx
    have hxg : xb ≠ g := hfr C t g cap h1 h2
    have c1 := hr'.some hxb (fun e => hxg (hob _ e))
    exact Zw (x_loadN (cs := cs.toList) (b := xb) (o := 0) (by rw [Array.length_toList, hcs]; exact hmT) (by rw [Ze]; exact q) (fun j v hv => by rw [Zc c1, Nat.zero_add]; simpa using hv)) ⟨_, rfl, relp_ne (by rfl) (.refl _), by simp⟩
  · intro a1 w1 hr' hp hs hd
    have q : Act.get a1 d2 = .agg cs := hd ⟨2, .data⟩ (by simp) rfl
    have ee : (#[Operand.tmp d2] : Array Operand).map a1.eval = #[.agg cs] := by simp [Ze, q]
    refine owp_call (Zy hbd rfl) (by rw [ee]; exact hm x.w0 w1 cs y (hMx w1 hr') hcs hT hok) ?_
    rintro e' w2 ⟨v2, rfl, hm2, hrep⟩
    exact ⟨_, rfl, _, rfl, relp_ne (by rfl) hm2, hrep.mod (Mod.refl (S := none') w2) (fun _ _ f => f) (fun k hk => Fx.nw_mono (x := x) hr'.size hk)⟩
  · intro a1 w1 hr' hp hs hd
    have q : RepS w1 (x.nw w) ety (Act.get a1 d3) (E y) := hd ⟨3, .data⟩ (by simp) rfl
    obtain ⟨c1, c2, c3⟩ := q.cells hr
    refine Zw (x_buildSlice1 (v := Act.get a1 d3) hI (Ze _) (c1.trans hsz)) ⟨_, rfl, relp_ne (by rfl) ((Mod.refl w1).alloc _), w1.heap.size, _, rfl, Zh w1 _, hr'.size, c1.trans hsz, c2, c3.mod (S := none') ((Mod.refl w1).alloc _) (fun _ _ f => f) (fun _ h => h)⟩
  · intro a1 w1 hr' hp hs hd
    have q4 : Act.get a1 d1 = .slice (some ⟨g, 0, none⟩) done.length cap := hd ⟨1, .data⟩ (by simp) rfl
    obtain ⟨nb, ms, q5, q6, q7, q8, q9, q10⟩ : ∃ nb ms, Act.get a1 d4 = .slice (some ⟨nb, 0, none⟩) 1 1 /\ w1.heap[nb]? = some (.cells ms e (0, 0)) /\ w.heap.size <= nb /\ ms.size = sz /\ ms.all (·.oneCell') = true /\ Rep w1 (x.nw w) ety (from' ms 0) (E y) := hd ⟨4, .data⟩ (by simp) rfl
    have hpm := hp rfl
    have hG1 := h4.grow (rep_ok hr hsz) hpm
    obtain ⟨v', w2, hrun, k1, k2, k3, k4⟩ := x_append (P := P) (ρ := a1.eval) (w := w1) (d := some d5) (ty := y5) (p := p5) (af := #[⟨1, .data⟩, ⟨4, .data⟩, ⟨3, .chain⟩]) (g := none) (s := .tmp d1) (x := .tmp d4) (base := B) (n := done.length) (xs := lrow) (ad := ⟨nb, 0, none⟩) (m := 1) (c := 1) (news := ms.toList) hI (by rw [Ze]; exact q4) (by rw [Ze]; exact q5) hG1.own (by simp [q8]) (fun j u hu => by rw [Addr.add_mid, Zc q6, Nat.zero_add]; simpa using hu) (fun u hu => Array.all_eq_true_iff_forall_mem.1 q9 u (by simpa using hu)) (by omega) (by have := hpm.size; omega)
    have hps := hpm.size
    refine Zw hrun ⟨_, rfl, relp_eq (by rw [hov]; exact k2), lrow ++ ms.toList, hG1.push (rep_ok hr hsz) k2 (by simpa using k1) (by simp [q8]) k4 ?_, ?_⟩
    · have hlt := Rep.lt ety _ _ q10
      refine Rep.mod (Mod.refl (S := none') w1) (fun _ _ f => f) (fun k hk => ?_) _ _ _ (Rep.congr ety _ _ _ hr (fun j hj => by simp [from', List.getD_eq_getElem?_getD]) hlt)
      have hk1 := hk.1
      refine ⟨?_, fun e => ?_, hk.2⟩
      · rcases hk1 with hk1 | hk1
        · exact .inl ⟨⟨.inl hk1, by have := hA.lo; omega, by have := hA.lo; omega⟩, by omega⟩
        · exact .inr (by omega)
      · have e' : g = k := by simpa [Value.ownBlock] using e
        rcases hk1 with hk1 | hk1 <;> omega
    · rcases k1.2 with ⟨_, h0⟩ | ⟨g2, cap2, _, hv2, _⟩
      · omega
      · exact ⟨g2, cap2, by rw [hv2]; simp⟩
  · intro a1 w1 hr' hs hh
    obtain ⟨lrow', q1, q2⟩ : ∃ lrow', RowG (fun w F c (t : Tr) => Rep w F ety c t) e sz B (fun k => x.F k /\ k < B) w1 (Act.get a1 d5) lrow' (done ++ [E y]) /\ ∃ g cap, Act.get a1 d5 = .slice (some ⟨g, 0, none⟩) (done ++ [E y]).length cap := hh 5 (by simp)
    have sN : ∀ d, Γ.free d = true -> d < a1.tmps.size := fun d hd => by rw [hs.size]; exact hA.lt hd
    have hA1 : FA Γ x a1 w1 := (hA.same hs htb0 hs0 hrs0).world hr' (fun k e => by have := hob k e; subst this; exact ⟨by omega, by omega, by omega⟩)
    have c1 := hr'.some h1 (fun e => by have := hob _ e; omega)
    have fd6 := htl d6 (by simp)
    refine Zv rfl (Za hf (b := x.blk) (o0 := 0) (by rw [Ze]; exact hA1.ptr)) ?_
    have hone' : (Act.get a1 d5).oneCell' = true := by obtain ⟨_, _, e⟩ := q2; rw [e]; rfl
    refine wpl_skip rfl (x_store1 hsz1 (b := x.blk) (o := 0 + o) (v := Act.get a1 d5) (u := .slice (some ⟨g, 0, none⟩) done.length cap) ?_ ?_ hone' (by rw [Zc c1]; exact h2) (Zz c1)) (wpList_nil ⟨rfl, ?_, ?_⟩)
    · rw [Ze, Zq (sN _ fd6.1)]
    · rw [Ze, Zn (fun e => fd6.2 (by simp [<- e]))]
    · rw [Zo]
      exact hL.push hot hr hsz h1 h2 (hr'.mono fun k _ e => by have := hob k e; subst this; exact ⟨rfl, hgB.1⟩) q1 q2 (hA1.put fd6.1 _)
    · rw [Zo]
      refine ((hs.mono fun t ht => ?_).put ?_ _)
      · simp only [List.mem_cons, List.not_mem_nil, or_false] at ht
        rcases ht with rfl | rfl | rfl | rfl | rfl | rfl <;> simp [W, writes]
      · simp [W, writes]
end
end Go.Proofs.Ytmehfgiadapekaa
set_option linter.unusedSimpArgs false
set_option linter.unusedVariables false
namespace Go.Proofs.Ytmehfgiadapekaa
open Go Go.RowKit
/-- a loop that counts -/
theorem wp_for2 {P : Program} {Q : Exit -> Act -> World -> Prop} {a : Act} {w : World} {b0 b1 t : Nat} {ct body inc : Code}
  (I J K : Nat -> Act -> World -> Prop) (n : Nat) (h0 : I n a w)
  (ht : ∀ m a w, I m a w -> ct.wp P (fun e a' w' => e = .normal /\ ((∃ m', m = m' + 1 /\ Act.get a' t = .bool true /\ J m' a' w') \/ (Act.get a' t = .bool false /\ Q .normal a' w'))) a w)
  (hbd : ∀ m a w, J m a w -> body.wp P (fun e a' w' => e = .normal /\ K m a' w') a w)
  (hi : ∀ m a w, K m a w -> inc.wp P (fun e a' w' => e = .normal /\ I m a' w') a w) :
  (Code.block b0 (.loop (.seq ct (.seq (.cond (.tmp t) .skip (.exit b0)) (.seq (.block b1 body) inc))))).wp P Q a w := by
 refine wp_block (wp_loop_ghost I n h0 ?_)
 intro m a w hI
 refine wp_seq (wp_mono (ht m a w hI) ?_)
 rintro e a1 w1 ⟨rfl, h⟩
 rcases h with ⟨m', rfl, hb1, hJ⟩ | ⟨hb1, hQ⟩
 ·refine wp_seq (wp_cond_true (by rw [Ze]; exact hb1) (wp_skip ?_))
  refine wp_seq (wp_block (wp_mono (hbd m' a1 w1 hJ) ?_))
  rintro e a2 w2 ⟨rfl, h2⟩
  exact wp_mono (hi m' a2 w2 h2) (by rintro e a3 w3 ⟨rfl, h3⟩; exact ⟨m', Nat.lt_succ_self _, h3⟩)
 ·refine wp_seq (wp_cond_false (by rw [Ze]; exact hb1) (wp_exit ?_))
  simp [Exit.then, Exit.inBlock]
  exact hQ
theorem set_again {α : Type} {l : List α} {i : Nat} {a : α} (h : l[i]? = some a) : l.set i a = l := by
 apply List.ext_getElem?
 intro j
 by_cases hj : i = j
 ·subst hj
  rw [h, List.getElem?_set_self (List.getElem?_eq_some_iff.1 h).1]
 ·rw [List.getElem?_set_ne hj]
section
variable {P : Program} {Γ : Fl} {σ : St} {i j o k sz e T TT LT L5 fat bx t1 t2 t3 t4 u1 u2 ul un ui uc v1 v2 x1 i0 i1 i2 i3 i4 b0 b1 : Nat} {ety : Ty} {E : Tr -> Tr} {oke : Tr -> Prop} {cm ca : Code}
 {y1 y2 y3 y4 y5 y6 y7 y8 y9 y10 y11 y12 y13 y14 y15 y16 ya yb yc yd yf : TypeId} {p1 p2 p3 p4 p5 p6 p7 p8 p9 p10 p11 p12 p13 p14 p15 p16 : String} {e1 e2 e3 e4 e5 e6 e7 e8 e9 e10 e11 e12 e13 e14 e15 e16 : Array Edge} {ts ts2 ts3 : Array TypeId}
set_option maxHeartbeats 1000000 in
/-- 'if !at(t, j).Null { v.F = make(..); for _, x := range at(t, j).L { v.F = append(v.F, ..) } }' -/
theorem fst_list (hat' : AtC P fat) (hbd : bodied P fat = true) (hmT : many P TT 5 = true) (h2f : fldOne P TT 2 2 = true) (h3f : fldOne P TT 3 3 = true) (h5 : elemSize P L5 = some 5) (hts : ts3[0]? = some L5) (hsT : sized P TT 5 = true) (hzT : zeroOf P TT = some (.agg #[.int .i64 0, .slice none 0 0, .bool false, .slice none 0 0, .slice none 0 0]))
  (hmk : MkC P Γ σ cm i j o ety sz e) (hap : AppE P Γ σ ca bx o ety sz e E oke) (hr : ety.ok = true) (hsz : ety.size = sz) (hat : σ.lay.at i = some (o, .list ety sz)) (hok : σ.okAt i o (.list ety sz) = true)
  (hs : (Γ.free t1 && Γ.free t2 && Γ.free t3 && Γ.free t4 && Γ.free u1 && Γ.free u2 && Γ.free ul && Γ.free un && Γ.free ui && Γ.free uc && Γ.free v1 && Γ.free v2 && Γ.free bx && Γ.free x1 && decide ([ul, un, ui, uc, v1, v2, bx, x1] : List Nat).Nodup && decide (ul ∉ writes ca) && decide (un ∉ writes ca) && decide (ui ∉ writes ca)) = true) :
  Fst P Γ σ (.seq (.region i0 #[⟨some t1, .load TT (.tmp Γ.tb), y1, p1, e1, none⟩, ⟨some t2, .call ⟨.value (.func fat), #[.tmp t1, .const (.int .i64 (j : Nat))], ts⟩, y2, p2, e2, none⟩, ⟨some t3, .field TT (.tmp t2) 2, y3, p3, e3, none⟩, ⟨some t4, .unOp .not ya (.tmp t3), y4, p4, e4, none⟩] false)
   (.cond (.tmp t4) (.seq cm (.seq (.region i1 #[⟨some u1, .load TT (.tmp Γ.tb), y5, p5, e5, none⟩, ⟨some u2, .call ⟨.value (.func fat), #[.tmp u1, .const (.int .i64 (j : Nat))], ts2⟩, y6, p6, e6, none⟩, ⟨some ul, .field TT (.tmp u2) 3, y7, p7, e7, none⟩, ⟨some un, .call ⟨.builtin .len, #[.tmp ul], ts3⟩, y8, p8, e8, none⟩, ⟨some ui, .move (.const (.int .i64 0)), y9, p9, e9, none⟩] false)
    (.block b0 (.loop (.seq (.region i2 #[⟨some uc, .binOp .lss yb (.tmp ui) (.tmp un) yc, y10, p10, e10, none⟩] false) (.seq (.cond (.tmp uc) .skip (.exit b0))
     (.seq (.block b1 (.seq (.region i3 #[⟨some v1, .indexAddr L5 (.tmp ul) (.tmp ui), y11, p11, e11, none⟩, ⟨some v2, .load TT (.tmp v1), y12, p12, e12, none⟩, ⟨some bx, .alloc TT, y13, p13, e13, none⟩, ⟨none, .store TT (.tmp bx) (.tmp v2), y14, p14, e14, none⟩] false) ca))
      (.region i4 #[⟨some x1, .binOp .add yd (.tmp ui) (.const (.int .i64 1)) yf, y15, p15, e15, none⟩, ⟨some ui, .move (.tmp x1), y16, p16, e16, none⟩] false)))))))) .skip)) i .nul
   (fun g => if (g.L.getD j .zero).Z = true then .nul else .list ((g.L.getD j .zero).L.map E) false) (fun g => (g.L.getD j .zero).L.length <= 32767 /\ ∀ x ∈ (g.L.getD j .zero).L, oke x) := by
 intro x v a w hA hC hz ⟨hlen, hall⟩
 simp only [Bool.and_eq_true, decide_eq_true_eq] at hs
 obtain ⟨⟨⟨⟨⟨⟨⟨⟨⟨⟨⟨⟨⟨⟨⟨⟨⟨f1, f2⟩, f3⟩, f4⟩, g1⟩, g2⟩, gl⟩, gn⟩, gi⟩, gc⟩, gv1⟩, gv2⟩, gbx⟩, gx1⟩, hnd⟩, wl⟩, wn⟩, wi⟩ := hs
 simp only [List.nodup_cons, List.mem_cons, List.not_mem_nil, or_false, not_or, not_false_eq_true, List.nodup_nil, and_true] at hnd
 obtain ⟨⟨lan, lai, lac, lav1, lav2, labx, lax1⟩, ⟨nai, nac, nav1, nav2, nabx, nax1⟩, ⟨iac, iav1, iav2, iabx, iax1⟩, ⟨cav1, cav2, cabx, cax1⟩, ⟨v1v2, v1bx, v1x1⟩, ⟨v2bx, v2x1⟩, bxx1⟩ := hnd
 obtain ⟨yj, hyj⟩ : ∃ y, y = x.g.L.getD j .zero := ⟨_, rfl⟩
 show Code.wp P _ (fun e' a' w' => e' = .normal /\ FA Γ x a' w' /\ Cur σ x.F x.blk 0 (v.1.set i (if (x.g.L.getD j .zero).Z = true then .nul else .list ((x.g.L.getD j .zero).L.map E) false), v.2) w') a w
 rw [<- hyj] at hlen hall ⊢
 -- whether it is null
 obtain ⟨T0, hb0⟩ := hA.hb
 refine wp_seq (wp_region_lit (Zv rfl (x_loadN (cs := x.ct.toList) (b := x.tblk) (o := 0) (by rw [Array.length_toList, hA.ct]; exact hmT) (by rw [Ze, hA.tree]) (fun j v hv => by rw [Zc hb0, Nat.zero_add]; simpa using hv)) ?_))
 have hA2 := hA.put f1 (.agg x.ct.toList.toArray)
 have q2 : Act.get (a.put (some t1) (.agg x.ct.toList.toArray)) t1 = .agg x.ct := by rw [Zq (hA.lt f1)]
 generalize a.put (some t1) (.agg x.ct.toList.toArray) = a2 at *
 have ee : (#[Operand.tmp t1, .const (.int .i64 (j : Nat))] : Array Operand).map a2.eval = #[.agg x.ct, .int .i64 (j : Nat)] := by
  simp [Ze, q2]; rfl
 refine wpl_call rfl (Zy hbd rfl) (by rw [ee]; exact hat' hA.mod hA.ct hA.tr) ?_
 rintro e' w1 ⟨m1, cs, rfl, hcs, hT⟩
 rw [<- hyj] at hT
 obtain ⟨sv, lv, uv, f, g, rfl, hn, hS, hL, hLs, _⟩ := tree_cells hT hcs
 refine ⟨_, rfl, Zv rfl (x_fieldO (v := .bool yj.Z) h2f (by rw [Ze, Zq (hA2.lt f2)]) rfl) (Zv rfl (x_notV (b := yj.Z) (c := !yj.Z) ?_ rfl) (wpList_nil ?_))⟩
 ·rw [Ze, Zq (by rw [Zs]; exact hA2.lt f3)]
 refine wp_act (fun b : Act => FA Γ x b w1 /\ Act.get b t4 = .bool (!yj.Z)) ⟨(((hA2.new m1).put f2 _).put f3 _).put f4 _, ?_⟩ ?_
 ·rw [Zq (by simp only [Zs]; exact hA2.lt f4)]
 rintro b ⟨hB, b4⟩
 have hC1 : Cur σ x.F x.blk 0 v w1 := hC.later m1 (fun f => f) (fun _ _ f => f)
 cases hyz : yj.Z with
 | true =>
  refine wp_cond_false (by rw [Ze, b4, hyz]; rfl) (wp_skip ⟨rfl, hB, ?_⟩)
  rw [if_pos rfl, set_again hz]
  exact hC1
 | false =>
  refine wp_cond_true (by rw [Ze, b4, hyz]; rfl) (wp_seq (wp_mono (hmk x v b w1 hB hC1 hz (by rw [<- hyj]; exact hlen)) ?_))
  rintro e' a3 w3 ⟨rfl, B, hL3⟩
  rw [if_neg (by simp)]
  clear b4 hB
  have hA3 := hL3.fa
  obtain ⟨T3, hb3⟩ := hA3.hb
  refine wp_seq (wp_region_lit (Zv rfl (x_loadN (cs := x.ct.toList) (b := x.tblk) (o := 0) (by rw [Array.length_toList, hA3.ct]; exact hmT) (by rw [Ze, hA3.tree]) (fun j v hv => by rw [Zc hb3, Nat.zero_add]; simpa using hv)) ?_))
  have hL4 := hL3.put g1 (.agg x.ct.toList.toArray)
  have q4 : Act.get (a3.put (some u1) (.agg x.ct.toList.toArray)) u1 = .agg x.ct := by rw [Zq (hA3.lt g1)]
  generalize a3.put (some u1) (.agg x.ct.toList.toArray) = a4 at *
  have ee4 : (#[Operand.tmp u1, .const (.int .i64 (j : Nat))] : Array Operand).map a4.eval = #[.agg x.ct, .int .i64 (j : Nat)] := by
   simp [Ze, q4]; rfl
  refine wpl_call rfl (Zy hbd rfl) (by rw [ee4]; exact hat' hA3.mod hA3.ct hA3.tr) ?_
  rintro e' w4 ⟨m4, cs4, rfl, hcs4, hT4⟩
  rw [<- hyj] at hT4
  obtain ⟨sv4, lv4, uv4, f4', g4', rfl, hn4, hS4, hE4, hLs4, _⟩ := tree_cells hT4 hcs4
  have hL5 := hL4.new hr hsz m4
  obtain ⟨ao, cap, hlv⟩ := hE4.slice
  have hA4 := hL4.fa
  refine ⟨_, rfl, Zv rfl (x_fieldO (v := lv4) h3f (by rw [Ze, Zq (hA4.lt g2)]) rfl) (Zv rfl (x_len (by rw [h5]; rfl) hts (ao := ao) (cap := cap) (n := yj.L.length) ?_) (Zv rfl Zm (wpList_nil ?_)))⟩
  ·rw [Ze, Zq (by rw [Zs]; exact hA4.lt gl), hlv]
  refine wp_act (fun b : Act => LS Γ σ x o ety sz e B v b w4 [] /\ Act.get b ul = lv4 /\ Act.get b un = .int .i64 (yj.L.length : Nat) /\ Act.get b ui = .int .i64 (0 : Nat)) ⟨(((hL5.put g2 _).put gl _).put gn _).put gi _, ?_, ?_, ?_⟩ ?_
  ·rw [Zn (Ne.symm lai), Zn (Ne.symm lan), Zq (by simp only [Zs]; exact hA4.lt gl)]
  ·rw [Zn (Ne.symm nai), Zq (by simp only [Zs]; exact hA4.lt gn)]
  ·rw [Zq (by simp only [Zs]; exact hA4.lt gi)]; rfl
  clear hL5 hL4 hA4 q4 ee4 hA3 hL3
  rintro a5 ⟨hL5, s1, s2, s3⟩
  refine wp_for2
   (I := fun m a w => ∃ q, q + m = yj.L.length /\ LS Γ σ x o ety sz e B v a w ((yj.L.take q).map E) /\ Act.get a ul = lv4 /\ Act.get a un = .int .i64 (yj.L.length : Nat) /\ Act.get a ui = .int .i64 (q : Nat))
   (J := fun m a w => ∃ q, q + (m + 1) = yj.L.length /\ LS Γ σ x o ety sz e B v a w ((yj.L.take q).map E) /\ Act.get a ul = lv4 /\ Act.get a un = .int .i64 (yj.L.length : Nat) /\ Act.get a ui = .int .i64 (q : Nat))
   (K := fun m a w => ∃ q, q + (m + 1) = yj.L.length /\ LS Γ σ x o ety sz e B v a w ((yj.L.take (q + 1)).map E) /\ Act.get a ul = lv4 /\ Act.get a un = .int .i64 (yj.L.length : Nat) /\ Act.get a ui = .int .i64 (q : Nat)) yj.L.length ?_ ?_ ?_ ?_
  ·exact ⟨0, by omega, by simpa using hL5, s1, s2, s3⟩
  ·rintro m a6 w6 ⟨q, hq, hL6, r1, r2, r3⟩
   have hA6 := hL6.fa
   refine wp_region_lit (Zv rfl (x_lss (k := .i64) (m := (q : Nat)) (n := (yj.L.length : Nat)) (by rw [Ze, r3]) (by rw [Ze, r2])) (wpList_nil ⟨rfl, ?_⟩))
   rw [Zq (hA6.lt gc)]
   cases m with
   | zero =>
    right
    have hqe : q = yj.L.length := by omega
    refine ⟨by congr 1; simp; omega, rfl, hL6.fa.put gc _, ?_⟩
    rw [hqe, List.take_length] at hL6
    exact hL6.fin hr hsz hat hok (by simp; omega)
   | succ m =>
    left
    refine ⟨m, rfl, by congr 1; simp; omega, q, by omega, hL6.put gc _, ?_, ?_, ?_⟩
    ·rw [Zn (Ne.symm lac), r1]
    ·rw [Zn (Ne.symm nac), r2]
    ·rw [Zn (Ne.symm iac), r3]
  ·rintro m a6 w6 ⟨q, hq, hL6, r1, r2, r3⟩
   have hql : q < yj.L.length := by omega
   have hA6 := hL6.fa
   rcases hE4 with ⟨h0, _⟩ | ⟨kb, off, cap', C, tC, fr, c1, c2, c3, c4, c5⟩
   ·omega
   have c4' := hA6.mod.some c4 (fun f => f)
   have hTq := hLs4 q hql
   refine wp_seq (wp_region_lit (Zv rfl (Zx (sz := 5) (i := q) (b := kb) (o := off) (n := yj.L.length) (cap := cap') (k := .i64) h5 (by rw [Ze, r1, c1]) (by rw [Ze, r3]) hql) ?_))
   have n1 : Act.get (a6.put (some v1) (.pointer (some ⟨kb, off + q * 5, none⟩))) v1 = .pointer (some ⟨kb, off + q * 5, none⟩) := Zq (hA6.lt gv1)
   refine Zv rfl (x_loadN (cs := [f4' q 0, f4' q 1, f4' q 2, f4' q 3, f4' q 4]) (b := kb) (o := off + q * 5) hmT (by rw [Ze]; exact n1) (range5 fun j hj => by rw [Zc c4']; exact c5 q hql j hj)) (Zv rfl (x_alloc hzT) ?_)
   obtain ⟨cq, hcq⟩ : ∃ cq : Array Value, cq = #[f4' q 0, f4' q 1, f4' q 2, f4' q 3, f4' q 4] := ⟨_, rfl⟩
   have hcq5 : cq.size = 5 := by rw [hcq]; rfl
   have hTc : TreeI x.w0 (from' cq 0) yj.L[q] := by rw [hcq]; exact hTq.congr (from5 (f4' q))
   have hall5 : cq.all (·.oneCell') = true := by rw [hcq]; exact all5 hTq.one
   rw [show ([f4' q 0, f4' q 1, f4' q 2, f4' q 3, f4' q 4] : List Value).toArray = cq by rw [hcq]]
   have r1' := Zh w6 (.cells (Value.agg #[.int .i64 0, .slice none 0 0, .bool false, .slice none 0 0, .slice none 0 0]).cells TT)
   have m7 : Mod none' w6 (w6.alloc (.cells (Value.agg #[.int .i64 0, .slice none 0 0, .bool false, .slice none 0 0, .slice none 0 0]).cells TT)) := (Mod.refl w6).alloc _
   generalize w6.alloc (.cells (Value.agg #[.int .i64 0, .slice none 0 0, .bool false, .slice none 0 0, .slice none 0 0]).cells TT) = w7 at *
   obtain ⟨xb, hxb⟩ : ∃ b, b = w6.heap.size := ⟨_, rfl⟩
   rw [<- hxb] at r1' ⊢
   refine wpl_skip rfl (x_storeN (cs := cq) (b := xb) (o := 0) (by rw [hcq5]; exact hsT) ?_ ?_ hall5 ?_) (wpList_nil ?_)
   ·rw [Ze, Zq (by simp only [Zs]; exact hA6.lt gbx)]
   ·rw [Ze, Zn (Ne.symm v2bx), Zq (by simp only [Zs]; exact hA6.lt gv2)]
   ·intro j hj
    rw [Zc r1', Zz r1', Nat.zero_add, Array.getElem?_eq_getElem (by show j < 5; omega)]
    exact ⟨rfl, rfl⟩
   rw [Zo]
   have k2 := put_tree (cs := cq) r1' (by rw [hcq5]; rfl)
   have m8 := mod_setCells xb w7 0 cq.toList
   have m68 : Mod none' w6 (w7.setCells xb 0 cq.toList) := m7.trans' m8 (fun _ _ f => f) (fun j hj e => by have e' : j = xb := e; omega)
   generalize w7.setCells xb 0 cq.toList = w8 at *
   have hL8 := (((hL6.new hr hsz m68).put gv1 (.pointer (some ⟨kb, off + q * 5, none⟩))).put gv2 (.agg cq)).put gbx (.pointer (some ⟨xb, 0, none⟩))
   have hlq : ((yj.L.take q).map E).length = q := by rw [List.length_map, List.length_take]; omega
   refine wp_mono (hap x v _ w8 B _ cq yj.L[q] xb TT hL8 (Zq (by simp only [Zs]; exact hA6.lt gbx)) k2 ?_ hcq5 hTc (hall _ (List.getElem_mem hql)) (by rw [hlq]; omega)) ?_
   ·intro C' t' g' cap'' hb' hc'
    obtain ⟨C0, t0, g0, cap0, lrow0, k1', k2', _, k4'⟩ := hL6.mem
    have e8 := m68.some k1' (fun f => f)
    rw [e8] at hb'
    obtain ⟨rfl, rfl⟩ : C0 = C' /\ t0 = t' := by simpa using hb'
    rw [k2'] at hc'
    have : g0 = g' := by simp at hc'; exact hc'.1
    have := (k4'.own.lt g0 rfl).2
    omega
   rintro e' a9 w9 ⟨rfl, hL9, hsb9⟩
   refine ⟨rfl, q, hq, ?_, ?_, ?_, ?_⟩
   ·rw [List.take_succ_eq_append_getElem hql, List.map_append]; exact hL9
   ·rw [hsb9.get _ wl, Zn (Ne.symm labx), Zn (Ne.symm lav2), Zn (Ne.symm lav1), r1]
   ·rw [hsb9.get _ wn, Zn (Ne.symm nabx), Zn (Ne.symm nav2), Zn (Ne.symm nav1), r2]
   ·rw [hsb9.get _ wi, Zn (Ne.symm iabx), Zn (Ne.symm iav2), Zn (Ne.symm iav1), r3]
  ·rintro m a6 w6 ⟨q, hq, hL6, r1, r2, r3⟩
   have hA6 := hL6.fa
   refine wp_region_lit (Zv rfl (x_add (k := .i64) (m := (q : Nat)) (n := 1) (by rw [Ze, r3]) rfl) (Zv rfl Zm (wpList_nil ⟨rfl, q + 1, by omega, (hL6.put gx1 _).put gi _, ?_, ?_, ?_⟩)))
   ·rw [Zn (Ne.symm lai), Zn (Ne.symm lax1), r1]
   ·rw [Zn (Ne.symm nai), Zn (Ne.symm nax1), r2]
   ·rw [Zq (by simp only [Zs]; exact hA6.lt gi), Ze, Zq (hA6.lt gx1)]
    congr 1
    rw [IntKind.wrap_i64]; omega
end
end Go.Proofs.Ytmehfgiadapekaa
