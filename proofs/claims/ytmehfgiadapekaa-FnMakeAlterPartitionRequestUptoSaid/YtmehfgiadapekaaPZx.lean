/-
  Rules for the code that sets a list of values that are no parts (FnMake).
-/
import Derived.Test.YtmehfgiadapekaaPZs
set_option linter.unusedSimpArgs false
set_option linter.unusedVariables false
namespace Go.Proofs.Ytmehfgiadapekaa
open Go Go.RowKit
section
variable {P : Program} {Γ : Fl} {σ : St} {o k sz e T TT T64 TK TS TO eb LT bx d0 d1 d2 d3 d4 d5 d6 d7 : Nat} {ety : Ty} {id : Nat}
 {y0 y1 y2 y3 y4 y5 y6 y7 y8 : TypeId} {p0 p1 p2 p3 p4 p5 p6 p7 p8 : String} {e0 e1 e2 e3 e4 e5 e6 e7 e8 : Array Edge}
/-- the thing lies in a slot: it is put behind, and the slice is stored -/
theorem app_end {all : Array Oper} {Q : Exit -> Act -> World -> Prop} {x : Fx} {v : SV} {a : Act} {w : World} {B : Nat} {done : List Tr} {u : Tr} {C : Array Value} {t g cap : Nat}
  (hI : elemInfo P LT e sz = true) (hsz1 : sized P LT 1 = true) (hot : Γ.off o 1 = true) (hf : fieldOff P T k = some o) (hr : ety.ok = true) (hsz : ety.size = sz)
  (hL : LS Γ σ x o ety sz e B v a w done) (h1 : w.heap[x.blk]? = some (.cells C t (0, 0))) (h2 : C[0 + o]? = some (.slice (some ⟨g, 0, none⟩) done.length cap))
  (g1 : Act.get a d1 = .slice (some ⟨g, 0, none⟩) done.length cap) (g4 : RepS w (x.nw w) ety (Act.get a d4) u) (hlen : done.length < 32767)
  (hs : (Γ.free d5 && Γ.free d6 && Γ.free d7 && d1 != d5 && d6 != d7) = true)
  (hQ : ∀ a' w', LS Γ σ x o ety sz e B v a' w' (done ++ [u]) -> SameBut (fun t => t = d5 \/ t = d6 \/ t = d7) a a' -> Q .normal a' w') :
  wpList P all Q [⟨some d5, .buildSlice LT 1 #[(0, .tmp d4)], y5, p5, e5, none⟩, ⟨some d6, .call ⟨.builtin .append, #[.tmp d1, .tmp d5], #[LT, LT]⟩, y6, p6, e6, none⟩, ⟨some d7, .fieldAddr T (.tmp Γ.s) k, y7, p7, e7, none⟩, ⟨none, .store LT (.tmp d7) (.tmp d6), y8, p8, e8, none⟩] a w := by
 simp only [Bool.and_eq_true, bne_iff_ne] at hs
 obtain ⟨⟨⟨⟨f5, f6⟩, f7⟩, n15⟩, n67⟩ := hs
 have hA := hL.fa
 obtain ⟨C0, t0, g0, cap0, lrow, k1, k2, k3, h4⟩ := hL.mem
 rw [h1] at k1
 obtain ⟨rfl, rfl⟩ : C = C0 /\ t = t0 := by simpa using k1
 rw [h2] at k2
 obtain ⟨rfl, rfl⟩ : g = g0 /\ cap = cap0 := by simpa using k2
 obtain ⟨l1, l2, l3, l4, l5⟩ := hL.lo
 obtain ⟨c1, c2, c3⟩ := g4.cells hr
 have hgB : B <= g /\ g < w.heap.size := h4.own.lt g rfl
 refine Zv rfl (x_buildSlice1 (v := Act.get a d4) hI (Ze _) (c1.trans hsz)) ?_
 obtain ⟨nb, hnb⟩ : ∃ b, b = w.heap.size := ⟨_, rfl⟩
 have m1 : Mod none' w (w.alloc (.cells (Act.get a d4).cells e)) := (Mod.refl w).alloc _
 have q6 := Zh w (.cells (Act.get a d4).cells e)
 generalize w.alloc (.cells (Act.get a d4).cells e) = w1 at *
 rw [<- hnb] at q6 ⊢
 have hps := m1.size
 have hG1 := h4.grow (rep_ok hr hsz) m1
 have c3' := c3.mod m1 (fun _ _ f => f) (fun _ h => h)
 have hlt := Rep.lt ety _ _ c3'
 have hA1 := (hA.new m1).put f5 (.slice (some ⟨nb, 0, none⟩) 1 1)
 obtain ⟨v', w2, hrun, r1, r2, r3, r4⟩ := x_append (P := P) (ρ := (a.put (some d5) (.slice (some ⟨nb, 0, none⟩) 1 1)).eval) (w := w1) (d := some d6) (ty := y6) (p := p6) (af := e6) (g := none) (s := .tmp d1) (x := .tmp d5) (base := B) (n := done.length) (xs := lrow) (ad := ⟨nb, 0, none⟩) (m := 1) (c := 1) (news := (Act.get a d4).cells.toList) hI
  (by rw [Ze, Zn (Ne.symm n15)]; exact g1) (by rw [Ze, Zq (hA.lt f5)]) hG1.own (by simp [c1, hsz]) (fun j u hu => by rw [Addr.add_mid, Zc q6, Nat.zero_add]; simpa using hu) (fun u hu => Array.all_eq_true_iff_forall_mem.1 c2 u (by simpa using hu)) (by omega) (by omega)
 have hob : ∀ j, (Value.slice (some ⟨g, 0, none⟩) done.length cap).ownBlock = some j -> j = g := fun j hj => by simpa [Value.ownBlock] using hj.symm
 have hm : Mod (fun j => j = g /\ B <= j) w w2 := (m1.none.trans r2).mono fun j _ e => by have := hob j e; subst this; exact ⟨rfl, hgB.1⟩
 have hGn : RowG (fun w F c (t : Tr) => Rep w F ety c t) e sz B (fun k => x.F k /\ k < B) w2 v' (lrow ++ (Act.get a d4).cells.toList) (done ++ [u]) := by
  refine hG1.push (rep_ok hr hsz) r2 (by simpa using r1) (by simp [c1, hsz]) r4 ?_
  refine Rep.mod (Mod.refl (S := none') w1) (fun _ _ f => f) (fun j hj => ?_) _ _ _ (Rep.congr ety _ _ _ hr (fun j hj => by simp [from', List.getD_eq_getElem?_getD]) hlt)
  have hj1 := hj.1
  refine ⟨?_, fun e => ?_, hj.2⟩
  ·rcases hj1 with hj1 | hj1
   ·exact .inl ⟨⟨.inl hj1, by have := hA.lo; omega, by have := hA.lo; omega⟩, by omega⟩
   ·exact .inr (by omega)
  ·have e' : g = j := by simpa [Value.ownBlock] using e
   rcases hj1 with hj1 | hj1 <;> omega
 have hnn : ∃ g cap, v' = .slice (some ⟨g, 0, none⟩) (done ++ [u]).length cap := by
  rcases r1.2 with ⟨_, h0⟩ | ⟨g2, cap2, _, hv2, _⟩
  ·omega
  ·exact ⟨g2, cap2, by rw [hv2]; simp⟩
 have hA2 : FA Γ x (a.put (some d5) (.slice (some ⟨nb, 0, none⟩) 1 1)) w2 := ((hA.put f5 _).world hm (fun j e => ⟨by omega, by omega, by omega⟩))
 have h1' := hm.some h1 (fun e => by omega)
 refine Zv rfl hrun (Zv rfl (Za hf (b := x.blk) (o0 := 0) (by rw [Ze]; exact (hA2.put f6 _).ptr)) ?_)
 have hone' : v'.oneCell' = true := by obtain ⟨_, _, e⟩ := hnn; rw [e]; rfl
 refine wpl_skip rfl (x_store1 hsz1 (b := x.blk) (o := 0 + o) (v := v') (u := .slice (some ⟨g, 0, none⟩) done.length cap) ?_ ?_ hone' (by rw [Zc h1']; exact h2) (Zz h1')) (wpList_nil ?_)
 ·rw [Ze, Zq (by simp only [Zs]; exact hA.lt f7)]
 ·rw [Ze, Zn (Ne.symm n67), Zq (by rw [Zs]; exact hA.lt f6)]
 rw [Zo]
 exact hQ _ _ (hL.push hot hr hsz h1 h2 hm hGn hnn ((hA2.put f6 _).put f7 _)) ((((SameBut.refl a).put (.inl rfl) _).put (.inr (.inl rfl)) _).put (.inr (.inr rfl)) _)
/-- what is told of the thing's box -/
theorem box_get {w : World} {xb T' : Nat} {cs : Array Value} (h : w.heap[xb]? = some (.cells cs T' (0, 0))) {o : Nat} {v : Value} (hv : cs[o]? = some v) : w.cell? ⟨xb, 0 + o, none⟩ = some v := by
 rw [Zc h, Nat.zero_add]; exact hv
theorem app_make_num {kd : IntKind} (hI : elemInfo P LT e 1 = true) (hone : one P LT = true) (hsz1 : sized P LT 1 = true) (hot : Γ.off o 1 = true) (hf : fieldOff P T k = some o) (hf0 : fieldOff P TT 0 = some 0) (h64 : one P T64 = true) (hc1 : intTy P T64 .i64 = true) (hc2 : intTy P TK kd = true)
  (hs : (Γ.free d0 && Γ.free d1 && Γ.free d2 && Γ.free d3 && Γ.free d4 && Γ.free d5 && Γ.free d6 && Γ.free d7 && d0 != bx && d1 != bx && d1 != d2 && d1 != d3 && d1 != d4 && d1 != d5 && d6 != d7) = true) :
  AppE P Γ σ (.region id #[⟨some d0, .fieldAddr T (.tmp Γ.s) k, y0, p0, e0, none⟩, ⟨some d1, .load LT (.tmp d0), y1, p1, e1, none⟩, ⟨some d2, .fieldAddr TT (.tmp bx) 0, y2, p2, e2, none⟩, ⟨some d3, .load T64 (.tmp d2), y3, p3, e3, none⟩, ⟨some d4, .convert T64 TK (.tmp d3), y4, p4, e4, none⟩,
   ⟨some d5, .buildSlice LT 1 #[(0, .tmp d4)], y5, p5, e5, none⟩, ⟨some d6, .call ⟨.builtin .append, #[.tmp d1, .tmp d5], #[LT, LT]⟩, y6, p6, e6, none⟩, ⟨some d7, .fieldAddr T (.tmp Γ.s) k, y7, p7, e7, none⟩, ⟨none, .store LT (.tmp d7) (.tmp d6), y8, p8, e8, none⟩] false) bx o (.int kd) 1 e (fun y => .num (kd.wrap y.N)) (fun _ => True) := by
 intro x v a w B done cs y xb T' hL hbx hxb hfr hcs hT hok hlen
 simp only [Bool.and_eq_true, bne_iff_ne] at hs
 obtain ⟨⟨⟨⟨⟨⟨⟨⟨⟨⟨⟨⟨⟨⟨f0, f1⟩, f2⟩, f3⟩, f4⟩, f5⟩, f6⟩, f7⟩, n0b⟩, n1b⟩, n12⟩, n13⟩, n14⟩, n15⟩, n67⟩ := hs
 have hA := hL.fa
 obtain ⟨C, t, g, cap, lrow, h1, h2, h3, h4⟩ := hL.mem
 obtain ⟨sv, lv, uv, f', g', rfl, hn, hS, _⟩ := tree_cells hT hcs
 refine wp_region_lit (Zv rfl (Za hf (b := x.blk) (o0 := 0) (by rw [Ze]; exact hA.ptr)) (Zv rfl (Zl hone (b := x.blk) (o := 0 + o) (v := .slice (some ⟨g, 0, none⟩) done.length cap) ?_ (by rw [Zc h1]; exact h2)) (Zv rfl (Za hf0 (b := xb) (o0 := 0) ?_)
  (Zv rfl (Zl h64 (b := xb) (o := 0 + 0) (v := .int .i64 y.N) ?_ (box_get hxb rfl)) (Zv rfl (x_convInt (n := y.N) (k := .i64) (k' := kd) hc1 hc2 ?_) ?_)))))
 ·rw [Ze, Zq (hA.lt f0)]
 ·rw [Ze, Zn n1b, Zn n0b, hbx]
 ·rw [Ze, Zq (by simp only [Zs]; exact hA.lt f2)]
 ·rw [Ze, Zq (by simp only [Zs]; exact hA.lt f3)]
 have hL' := ((((hL.put f0 (.pointer (some ⟨x.blk, 0 + o, none⟩))).put f1 (.slice (some ⟨g, 0, none⟩) done.length cap)).put f2 (.pointer (some ⟨xb, 0 + 0, none⟩))).put f3 (.int .i64 y.N)).put f4 (.int kd (kd.wrap y.N))
 refine app_end hI hsz1 hot hf rfl rfl hL' h1 h2 ?_ ?_ hlen (by simp [f5, f6, f7, n15, n67]) (fun a' w' hl hsb => ⟨rfl, hl, ?_⟩)
 ·rw [Zn (Ne.symm n14), Zn (Ne.symm n13), Zn (Ne.symm n12), Zq (by simp only [Zs]; exact hA.lt f1)]
 ·rw [Zq (by simp only [Zs]; exact hA.lt f4)]
  exact .inl ⟨rfl, rfl, by simp only [Rep]; exact ⟨_, rfl, fits_wrap _ _, rfl⟩⟩
 ·refine SameBut.trans ((((((SameBut.refl a).put ?_ _).put ?_ _).put ?_ _).put ?_ _).put ?_ _) (hsb.mono fun t ht => ?_)
  rotate_right
  ·rcases ht with rfl | rfl | rfl <;> simp [W, writes]
  all_goals simp [W, writes]
theorem app_make_text (hI : elemInfo P LT e 1 = true) (hone : one P LT = true) (hsz1 : sized P LT 1 = true) (hot : Γ.off o 1 = true) (hf : fieldOff P T k = some o) (hf1 : fieldOff P TT 1 = some 1) (hO : one P TO = true) (hb : strBytes P TS TO eb = true)
  (hs : (Γ.free d0 && Γ.free d1 && Γ.free d2 && Γ.free d3 && Γ.free d4 && Γ.free d5 && Γ.free d6 && Γ.free d7 && d0 != bx && d1 != bx && d1 != d2 && d1 != d3 && d1 != d4 && d1 != d5 && d6 != d7) = true) :
  AppE P Γ σ (.region id #[⟨some d0, .fieldAddr T (.tmp Γ.s) k, y0, p0, e0, none⟩, ⟨some d1, .load LT (.tmp d0), y1, p1, e1, none⟩, ⟨some d2, .fieldAddr TT (.tmp bx) 1, y2, p2, e2, none⟩, ⟨some d3, .load TO (.tmp d2), y3, p3, e3, none⟩, ⟨some d4, .convert TO TS (.tmp d3), y4, p4, e4, none⟩,
   ⟨some d5, .buildSlice LT 1 #[(0, .tmp d4)], y5, p5, e5, none⟩, ⟨some d6, .call ⟨.builtin .append, #[.tmp d1, .tmp d5], #[LT, LT]⟩, y6, p6, e6, none⟩, ⟨some d7, .fieldAddr T (.tmp Γ.s) k, y7, p7, e7, none⟩, ⟨none, .store LT (.tmp d7) (.tmp d6), y8, p8, e8, none⟩] false) bx o .str 1 e (fun y => .oct y.S) (fun y => y.S.length <= 32767) := by
 intro x v a w B done cs y xb T' hL hbx hxb hfr hcs hT hok hlen
 simp only [Bool.and_eq_true, bne_iff_ne] at hs
 obtain ⟨⟨⟨⟨⟨⟨⟨⟨⟨⟨⟨⟨⟨⟨f0, f1⟩, f2⟩, f3⟩, f4⟩, f5⟩, f6⟩, f7⟩, n0b⟩, n1b⟩, n12⟩, n13⟩, n14⟩, n15⟩, n67⟩ := hs
 have hA := hL.fa
 obtain ⟨C, t, g, cap, lrow, h1, h2, h3, h4⟩ := hL.mem
 obtain ⟨sv, lv, uv, f', g', rfl, hn, hS, _⟩ := tree_cells hT hcs
 refine wp_region_lit (Zv rfl (Za hf (b := x.blk) (o0 := 0) (by rw [Ze]; exact hA.ptr)) (Zv rfl (Zl hone (b := x.blk) (o := 0 + o) (v := .slice (some ⟨g, 0, none⟩) done.length cap) ?_ (by rw [Zc h1]; exact h2)) (Zv rfl (Za hf1 (b := xb) (o0 := 0) ?_)
  (Zv rfl (Zl hO (b := xb) (o := 0 + 1) (v := sv) ?_ (box_get hxb rfl)) (Zv rfl (x_strOf hb (v := sv) ?_ (hS.mod hA.mod)) ?_)))))
 ·rw [Ze, Zq (hA.lt f0)]
 ·rw [Ze, Zn n1b, Zn n0b, hbx]
 ·rw [Ze, Zq (by simp only [Zs]; exact hA.lt f2)]
 ·rw [Ze, Zq (by simp only [Zs]; exact hA.lt f3)]
 have hL' := ((((hL.put f0 (.pointer (some ⟨x.blk, 0 + o, none⟩))).put f1 (.slice (some ⟨g, 0, none⟩) done.length cap)).put f2 (.pointer (some ⟨xb, 0 + 1, none⟩))).put f3 sv).put f4 (.string (str y.S))
 refine app_end hI hsz1 hot hf rfl rfl hL' h1 h2 ?_ ?_ hlen (by simp [f5, f6, f7, n15, n67]) (fun a' w' hl hsb => ⟨rfl, hl, ?_⟩)
 ·rw [Zn (Ne.symm n14), Zn (Ne.symm n13), Zn (Ne.symm n12), Zq (by simp only [Zs]; exact hA.lt f1)]
 ·rw [Zq (by simp only [Zs]; exact hA.lt f4)]
  exact .inl ⟨rfl, rfl, by simp only [Rep]; exact ⟨_, rfl, by omega, rfl⟩⟩
 ·refine SameBut.trans ((((((SameBut.refl a).put ?_ _).put ?_ _).put ?_ _).put ?_ _).put ?_ _) (hsb.mono fun t ht => ?_)
  rotate_right
  ·rcases ht with rfl | rfl | rfl <;> simp [W, writes]
  all_goals simp [W, writes]
end
section
variable {fr to nl g d of : Int} {sub : List FD} {y : Tr} {E : Tr -> Tr}
theorem fk_leafs (h10 : of ≠ 10) (hE : ∀ x, E x = fillL of (-1) x) : (if y.Z = true then Tr.nul else .list (y.L.map E) false) = fillW (.mk 11 fr to nl g d of sub) y := by
 have e : (fun x => if of = 10 then Tr.part (fillsW sub 0 x) x.U else fillL of (-1) x) = E := funext fun x => by rw [if_neg h10, hE]
 rw [fillW, if_pos rfl, e]
theorem fl_i32 (x : Tr) : Tr.num (IntKind.i32.wrap x.N) = fillL 3 (-1) x := by simp [fillL, expL, wrap32_eq]
theorem fl_text (x : Tr) : Tr.oct x.S = fillL 8 (-1) x := by simp [fillL]
theorem fo_nums (h : gokW (.mk 11 fr to nl g d of sub) y) : y.L.length <= 32767 /\ ∀ x ∈ y.L, True := by
 rw [gokW, if_pos rfl] at h
 exact ⟨h.1, fun _ _ => trivial⟩
theorem fo_texts (h : gokW (.mk 11 fr to nl g d 8 sub) y) : y.L.length <= 32767 /\ ∀ x ∈ y.L, x.S.length <= 32767 := by
 rw [gokW, if_pos rfl] at h
 refine ⟨h.1, fun x hx => ?_⟩
 have := h.2 x hx
 rw [if_neg (by decide)] at this
 exact this (.inl rfl)
end
end Go.Proofs.Ytmehfgiadapekaa
