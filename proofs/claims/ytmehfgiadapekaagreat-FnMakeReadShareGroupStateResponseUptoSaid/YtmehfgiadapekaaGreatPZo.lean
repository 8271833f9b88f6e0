/-
  Rules for the code that sets a message's fields (FnMake): tags, one field after another, the whole.
-/
import Derived.Test.YtmehfgiadapekaaGreatPZn
set_option linter.unusedSimpArgs false
set_option linter.unusedVariables false
namespace Go.Proofs.YtmehfgiadapekaaGreat
open Go Go.RowKit
/-- the tags of a struct are being set: so far these -/
structure TgS (Γ : Fl) (lay : Lay) (x : Fx) (ot n B : Nat) (vs : List Tr) (a : Act) (w : World) (u : Tags) : Prop where
 fa : FA { Γ with ot := none } x a w
 mem : ∃ C t mv, w.heap[x.blk]? = some (.cells C t (0, 0)) /\ n <= C.size /\ RepL w (fun k => x.F k /\ k < B) lay (from' C 0) vs /\ C[0 + ot]? = some mv /\
  ((mv = .map none /\ u = []) \/ ∃ r, B <= r /\ mv = .map (some r) /\ MapAt w x.F r u)
 lo : B <= w.heap.size /\ x.blk < B /\ x.tblk < B /\ x.e <= B
section
variable {P : Program} {Γ : Fl} {x : Fx} {lay : Lay} {ot n B : Nat} {vs : List Tr} {a a' : Act} {w w' : World} {u : Tags}
theorem TgS.put (h : TgS Γ lay x ot n B vs a w u) {t : Nat} (ht : Γ.free t = true) (v : Value) : TgS Γ lay x ot n B vs (a.put (some t) v) w u := ⟨h.fa.put ht v, h.mem, h.lo⟩
theorem TgS.new (h : TgS Γ lay x ot n B vs a w u) (hm : Mod none' w w') : TgS Γ lay x ot n B vs a w' u := by
 obtain ⟨C, t, mv, h1, hn, h2, h3, h4⟩ := h.mem
 refine ⟨h.fa.new hm, ⟨C, t, mv, hm.some h1 (fun f => f), hn, h2.mod hm (fun _ _ f => f) (fun _ h => h), h3, ?_⟩, Nat.le_trans h.lo.1 hm.size, h.lo.2⟩
 rcases h4 with h4 | ⟨r, hr, hv, hM⟩
 ·exact .inl h4
 ·refine .inr ⟨r, hr, hv, ?_⟩
  obtain ⟨es, clock, k1, k2, k3, k4, kb, k5, k6, k7, k8⟩ := hM
  refine ⟨es, clock, hm.some k1 (fun f => f), k2, k3, k4, kb, k5, k6, k7, fun i hi => ?_⟩
  obtain ⟨e, nil, g1, g2, g3, g4⟩ := k8 i hi
  exact ⟨e, nil, g1, g2, g3.mod hm (fun _ _ f => f) (fun _ h => h), g4⟩
theorem TgS.fin (h : TgS Γ lay x ot n B vs a w u) {σ : St} (hl : σ.lay = lay) (ht : σ.tg = some ot) (hsz : 0 + σ.sz <= n) : Cur σ x.F x.blk 0 (vs, u) w := by
 obtain ⟨C, t, mv, h1, hn, h2, h3, h4⟩ := h.mem
 obtain ⟨l1, l2, l3, l4⟩ := h.lo
 refine ⟨C, t, h1, by omega, by rw [hl]; exact h2.mod (Mod.refl (S := none') w) (fun _ _ f => f) (fun _ h => h.1), ?_⟩
 rw [ht]
 show TagsR w x.F (from' C 0 ot) u
 rw [get_from' h3]
 rcases h4 with ⟨e1, e2⟩ | ⟨r, hr, hv, hM⟩
 ·exact .inl ⟨e1, e2⟩
 ·rw [hv]; exact TagsR.of_map hM ⟨.inr (by omega), by omega, by omega⟩
/-- a piece of code that sets one tag -/
def TagE (P : Program) (Γ : Fl) (lay : Lay) (c : Code) (bx ot : Nat) : Prop :=
 ∀ (x : Fx) (vs : List Tr) (a : Act) (w : World) (n B : Nat) (u : Tags) (xb T : Nat) (vv : Value) (p : Int × List UInt8), TgS Γ lay x ot n B vs a w u -> Act.get a bx = .pointer (some ⟨xb, 0, none⟩) -> w.heap[xb]? = some (.cells #[.int .u32 p.1, vv] T (0, 0)) -> OctI x.w0 vv p.2 -> 0 <= p.1 /\ p.1 < 4294967296 /\ p.2.length <= 32767 -> u.length < 32767 ->
  c.wp P (fun e' a' w' => e' = .normal /\ TgS Γ lay x ot n B vs a' w' (setTag u p.1 p.2) /\ SameBut (W c) a a') a w
/-- what setting a tag does to such a struct -/
theorem ts_set {f : FuncId} (hc : SetTagC P f) (h : TgS Γ lay x ot n B vs a w u) {vv : Value} {p : Int × List UInt8} (ho : OctI x.w0 vv p.2) (hp : 0 <= p.1 /\ p.1 < 4294967296 /\ p.2.length <= 32767) (hu : u.length < 32767) (hlay : ∀ (C C' : Array Value) (w : World), RepL w (fun k => x.F k /\ k < B) lay (from' C 0) vs -> (∀ j, j ≠ 0 + ot -> C'[j]? = C[j]?) -> RepL w (fun k => x.F k /\ k < B) lay (from' C' 0) vs) :
  Calls P f #[.pointer (some ⟨x.blk, 0 + ot, none⟩), .int .u32 p.1, vv] w fun e w' => ∃ r', e = .returned r' /\ TgS Γ lay x ot n B vs a w' (setTag u p.1 p.2) := by
 obtain ⟨C, t, mv, h1, hn, h2, h3, h4⟩ := h.mem
 obtain ⟨l1, l2, l3, l4⟩ := h.lo
 have hent := h.fa.ent
 have hlo := h.fa.lo
 have hFn : ∀ k, B <= k -> x.F k := fun k hk => ⟨.inr (by omega), by omega, by omega⟩
 obtain ⟨nl, hoct⟩ := ho.to_oct
 have hoct' : Oct w x.F vv p.2 nl := hoct.mod h.fa.mod (fun _ _ f => f) (fun k hk => ⟨.inl hk, by omega, by omega⟩)
 have hT : TagsR w x.F mv u := by
  rcases h4 with ⟨e1, e2⟩ | ⟨r, hr, hv, hM⟩
  ·exact .inl ⟨e1, e2⟩
  ·rw [hv]; exact TagsR.of_map hM (hFn r hr)
 refine (hc w x.blk (0 + ot) C t x.F mv u p.1 vv p.2 nl h1 h3 hT (fun f => f.2.1 rfl) (hFn _ l1) ⟨hp.1, hp.2.1⟩ hoct' (by omega) (by omega)).mono ?_
 rintro e w' ⟨r', rfl, r, hFr, hr0, hm, ⟨C', k1, k2, k3, k4⟩, hM'⟩
 have hrB : B <= r := by
  rcases hr0 with hr0 | ⟨_, hr0⟩
  ·rcases h4 with ⟨e1, _⟩ | ⟨r1, hr1, hv1, _⟩
   ·rw [e1] at hr0; cases hr0
   ·rw [hv1] at hr0
    have : r1 = r := by simpa using hr0
    omega
  ·omega
 have hsz := hm.size
 obtain ⟨T, hb⟩ := h.fa.hb
 refine ⟨r', rfl, ⟨h.fa.size, h.fa.defers, h.fa.tree, h.fa.ptr, ⟨T, hm.some hb (fun e => by rcases e with e | e <;> omega)⟩, h.fa.ct, h.fa.tr, h.fa.mod.trans' hm (fun _ _ f => f) (fun j hj e => by have := h.fa.mod.size; rcases e with e | e <;> omega), h.fa.lo, by omega, fun q hq => (by cases hq), h.fa.we, fun q hq => (by
  obtain ⟨r1, r2, r3, r6, C2, t2, r4, r5⟩ := h.fa.res q hq
  exact ⟨r1, r2, r3, r6, C2, t2, hm.some r4 (fun e => by rcases e with e | e; exact r3 e; omega), r5⟩), h.fa.m1.1.trans' hm (fun _ _ f => f) (fun j hj e => by have q1 := h.fa.m1.2.1; have q2 := h.fa.m1.2.2.1; rcases e with e | e <;> omega), h.fa.m1.2⟩, ⟨C', t, .map (some r), k1, by omega, ?_, k3, .inr ⟨r, hrB, rfl, hM'⟩⟩, by omega, l2, l3, l4⟩
 refine (hlay C C' w h2 k4).mod hm (fun k hk e => ?_) (fun _ h => h)
 rcases e with e | e
 ·exact hk.1.2.1 e
 ·omega
end
/-- no field lies where the tags lie -/
theorem lay_off {w : World} {F : Nat -> Prop} {lay : Lay} {sz ot : Nat} {vs : List Tr} {C C' : Array Value} (hl : lay.ok 0 ot = true) (h : RepL w F lay (from' C 0) vs) (hc : ∀ j, j ≠ 0 + ot -> C'[j]? = C[j]?) : RepL w F lay (from' C' 0) vs :=
 RepL.congr lay 0 ot _ _ _ hl (fun j _ hj => by simp only [from', Array.getD_eq_getD_getElem?]; rw [hc _ (by omega)]) h
section
variable {P : Program} {Γ : Fl} {σ : St} {lay : Lay} {i j ot kt T TT TG LG U32 LB fset bx d0 d1 d2 d3 d4 d5 d6 d7 t1 u1 ul un ui uc v1 v2 x1 id i1 i2 i3 i4 b0 b1 : Nat} {cs : Code}
 {y0 y1 y2 y3 y4 y5 y6 y7 y8 y9 y10 y11 y12 y13 y14 y15 y16 yb yc yd yf : TypeId} {p0 p1 p2 p3 p4 p5 p6 p7 p8 p9 p10 p11 p12 p13 p14 p15 p16 : String} {e0 e1 e2 e3 e4 e5 e6 e7 e8 e9 e10 e11 e12 e13 e14 e15 e16 : Array Edge} {ts ts3 : Array TypeId}
set_option maxHeartbeats 1000000 in
theorem tag_fill (hord : P.follows .mixedOrders = true) (hc : SetTagC P fset) (hbd : bodied P fset = true) (hf : fieldOff P T kt = some ot) (hg0 : fieldOff P TG 0 = some 0) (hg1 : fieldOff P TG 1 = some 1) (h32 : one P U32 = true) (hLB : one P LB = true) (hl : lay.ok 0 ot = true)
  (hs : ([d0, d1, d2, d3, d4, d5, d6].all (fun d => Γ.free d && d != bx) && decide ([d0, d1, d2, d3, d4, d5, d6] : List Nat).Nodup && Γ.free d7) = true) :
  TagE P Γ lay (.region id #[⟨some d0, .move (.tmp Γ.s), y0, p0, #[], none⟩, ⟨some d1, .nilCheck (.tmp d0), y1, p1, #[⟨0, .data⟩], none⟩, ⟨some d2, .fieldAddr T (.tmp d1) kt, y2, p2, #[⟨1, .data⟩], none⟩, ⟨some d3, .fieldAddr TG (.tmp bx) 0, y3, p3, #[], none⟩, ⟨some d4, .load U32 (.tmp d3), y4, p4, #[⟨3, .data⟩], none⟩,
   ⟨some d5, .fieldAddr TG (.tmp bx) 1, y5, p5, #[], none⟩, ⟨some d6, .load LB (.tmp d5), y6, p6, #[⟨5, .data⟩], none⟩, ⟨some d7, .call ⟨.value (.func fset), #[.tmp d2, .tmp d4, .tmp d6], ts⟩, y7, p7, #[⟨2, .data⟩, ⟨4, .data⟩, ⟨6, .data⟩], none⟩] true) bx ot := by
 intro x vs a w n B u xb T' vv p hL hbx hxb ho hp hu
 simp only [Bool.and_eq_true, List.all_eq_true, decide_eq_true_eq, bne_iff_ne] at hs
 obtain ⟨⟨hdl, hnd⟩, h7⟩ := hs
 have hA := hL.fa
 have hs0 : Γ.s ∉ [d0, d1, d2, d3, d4, d5, d6] := fun h => (Fl.free_spec (hdl _ h).1).2.2 rfl
 have htb0 : Γ.tb ∉ [d0, d1, d2, d3, d4, d5, d6] := fun h => (Fl.free_spec (hdl _ h).1).2.1 rfl
 have hbx0 : bx ∉ [d0, d1, d2, d3, d4, d5, d6] := fun h => (hdl _ h).2 rfl
 refine region_rlt (l := [_, _, _, _, _, _, _]) (tl := [_]) hord (Mod none') (Mod.refl w).drew (fun _ _ _ h h' => h.trans h') [d0, d1, d2, d3, d4, d5, d6]
  [fun v _ => v = .pointer (some ⟨x.blk, 0, none⟩), fun v _ => v = .pointer (some ⟨x.blk, 0, none⟩), fun v _ => v = .pointer (some ⟨x.blk, 0 + ot, none⟩), fun v _ => v = .pointer (some ⟨xb, 0 + 0, none⟩), fun v _ => v = .int .u32 p.1, fun v _ => v = .pointer (some ⟨xb, 0 + 1, none⟩), fun v _ => v = vv]
  ?_ (by simp [regFormT]) hnd (fun d hd => hA.lt (hdl d hd).1) (by simp) (by kernel_rfl) ⟨?_, ?_, ?_, ?_, ?_, ?_, ?_, trivial⟩ ?_
 ·intro g hg v1 w1 w2 hv hr
  simp only [List.mem_cons, List.not_mem_nil, or_false] at hg
  rcases hg with rfl | rfl | rfl | rfl | rfl | rfl | rfl <;> exact hv
 ·intro a1 w1 hr hs hd
  have t1 := (hs.get Γ.s hs0).trans hA.ptr
  exact Zw (x_moveV t1) ⟨_, rfl, .refl _, rfl⟩
 ·intro a1 w1 hr hs hd
  have q : Act.get a1 d0 = .pointer (some ⟨x.blk, 0, none⟩) := hd ⟨0, .data⟩ (by simp) rfl
  exact Zw (x_nilCheck (q := ⟨x.blk, 0, none⟩) q) ⟨_, rfl, .refl _, rfl⟩
 ·intro a1 w1 hr hs hd
  have q : Act.get a1 d1 = .pointer (some ⟨x.blk, 0, none⟩) := hd ⟨1, .data⟩ (by simp) rfl
  exact Zw (Za hf (b := x.blk) (o0 := 0) q) ⟨_, rfl, .refl _, rfl⟩
 ·intro a1 w1 hr hs hd
  have q := (hs.get bx hbx0).trans hbx
  exact Zw (Za hg0 (b := xb) (o0 := 0) q) ⟨_, rfl, .refl _, rfl⟩
 ·intro a1 w1 hr hs hd
  have q : Act.get a1 d3 = .pointer (some ⟨xb, 0 + 0, none⟩) := hd ⟨3, .data⟩ (by simp) rfl
  exact Zw (Zl h32 q (by rw [Zc (hr.some hxb (fun f => f))]; rfl)) ⟨_, rfl, .refl _, rfl⟩
 ·intro a1 w1 hr hs hd
  have q := (hs.get bx hbx0).trans hbx
  exact Zw (Za hg1 (b := xb) (o0 := 0) q) ⟨_, rfl, .refl _, rfl⟩
 ·intro a1 w1 hr hs hd
  have q : Act.get a1 d5 = .pointer (some ⟨xb, 0 + 1, none⟩) := hd ⟨5, .data⟩ (by simp) rfl
  exact Zw (Zl hLB q (by rw [Zc (hr.some hxb (fun f => f))]; rfl)) ⟨_, rfl, .refl _, rfl⟩
 ·intro a1 w1 hr hs hh
  have q2 : Act.get a1 d2 = .pointer (some ⟨x.blk, 0 + ot, none⟩) := hh 2 (by simp)
  have q4 : Act.get a1 d4 = .int .u32 p.1 := hh 4 (by simp)
  have q6 : Act.get a1 d6 = vv := hh 6 (by simp)
  have hL1 := hL.new hr
  have hL2 : TgS Γ lay x ot n B vs a1 w1 u := ⟨hL1.fa.same hs htb0 hs0 (fun q hq h => (Fl.free_all (hdl _ h).1).2.2.2 hq), hL1.mem, hL1.lo⟩
  have ee : (#[Operand.tmp d2, .tmp d4, .tmp d6] : Array Operand).map a1.eval = #[.pointer (some ⟨x.blk, 0 + ot, none⟩), .int .u32 p.1, vv] := by simp [Ze, q2, q4, q6]
  refine wpl_call rfl (Zy hbd rfl) (by rw [ee]; exact ts_set hc hL2 ho hp hu (fun C C' w h1 h2 => lay_off (sz := 0) hl h1 h2)) ?_
  rintro e w2 ⟨r', rfl, hL3⟩
  refine ⟨_, rfl, wpList_nil ⟨rfl, hL3.put h7 _, ?_⟩⟩
  refine ((hs.mono fun t ht => ?_).put ?_ _)
  ·simp only [List.mem_cons, List.not_mem_nil, or_false] at ht
   rcases ht with rfl | rfl | rfl | rfl | rfl | rfl | rfl <;> simp [W, writes]
  ·simp [W, writes]
theorem tag_make (hc : SetTagC P fset) (hbd : bodied P fset = true) (hf : fieldOff P T kt = some ot) (hg0 : fieldOff P TG 0 = some 0) (hg1 : fieldOff P TG 1 = some 1) (h32 : one P U32 = true) (hLB : one P LB = true) (hl : lay.ok 0 ot = true)
  (hs : ([d2, d3, d4, d5, d6].all (fun d => Γ.free d && d != bx) && decide ([d2, d3, d4, d5, d6] : List Nat).Nodup && Γ.free d7) = true) :
  TagE P Γ lay (.region id #[⟨some d2, .fieldAddr T (.tmp Γ.s) kt, y2, p2, e2, none⟩, ⟨some d3, .fieldAddr TG (.tmp bx) 0, y3, p3, e3, none⟩, ⟨some d4, .load U32 (.tmp d3), y4, p4, e4, none⟩,
   ⟨some d5, .fieldAddr TG (.tmp bx) 1, y5, p5, e5, none⟩, ⟨some d6, .load LB (.tmp d5), y6, p6, e6, none⟩, ⟨some d7, .call ⟨.value (.func fset), #[.tmp d2, .tmp d4, .tmp d6], ts⟩, y7, p7, e7, none⟩] false) bx ot := by
 intro x vs a w n B u xb T' vv p hL hbx hxb ho hp hu
 simp only [Bool.and_eq_true, List.all_eq_true, decide_eq_true_eq, bne_iff_ne] at hs
 obtain ⟨⟨hdl, hnd⟩, h7⟩ := hs
 simp only [List.nodup_cons, List.mem_cons, List.not_mem_nil, or_false, not_or, not_false_eq_true, List.nodup_nil, and_true] at hnd
 obtain ⟨⟨n23, n24, n25, n26⟩, ⟨n34, n35, n36⟩, ⟨n45, n46⟩, n56⟩ := hnd
 have f2 := hdl d2 (by simp)
 have f3 := hdl d3 (by simp)
 have f4 := hdl d4 (by simp)
 have f5 := hdl d5 (by simp)
 have f6 := hdl d6 (by simp)
 have hA := hL.fa
 have L := fun {t} (h : Γ.free t = true) => hA.lt (t := t) h
 refine wp_region_lit (Zv rfl (Za hf (b := x.blk) (o0 := 0) (by rw [Ze]; exact hA.ptr)) (Zv rfl (Za hg0 (b := xb) (o0 := 0) ?_) (Zv rfl (Zl h32 (b := xb) (o := 0 + 0) (v := .int .u32 p.1) ?_ (by rw [Zc hxb]; rfl)) (Zv rfl (Za hg1 (b := xb) (o0 := 0) ?_) (Zv rfl (Zl hLB (b := xb) (o := 0 + 1) (v := vv) ?_ (by rw [Zc hxb]; rfl)) ?_)))))
 ·rw [Ze, Zn f2.2]; exact hbx
 ·rw [Ze, Zq (by rw [Zs]; exact L f3.1)]
 ·rw [Ze, Zn f4.2, Zn f3.2, Zn f2.2]; exact hbx
 ·rw [Ze, Zq (by simp only [Zs]; exact L f5.1)]
 have hL2 := ((((hL.put f2.1 (.pointer (some ⟨x.blk, 0 + ot, none⟩))).put f3.1 (.pointer (some ⟨xb, 0 + 0, none⟩))).put f4.1 (.int .u32 p.1)).put f5.1 (.pointer (some ⟨xb, 0 + 1, none⟩))).put f6.1 vv
 have q2 : Act.get (((((a.put (some d2) (.pointer (some ⟨x.blk, 0 + ot, none⟩))).put (some d3) (.pointer (some ⟨xb, 0 + 0, none⟩))).put (some d4) (.int .u32 p.1)).put (some d5) (.pointer (some ⟨xb, 0 + 1, none⟩))).put (some d6) vv) d2 = .pointer (some ⟨x.blk, 0 + ot, none⟩) := by
  rw [Zn (Ne.symm n26), Zn (Ne.symm n25), Zn (Ne.symm n24), Zn (Ne.symm n23), Zq (L f2.1)]
 have q4 : Act.get (((((a.put (some d2) (.pointer (some ⟨x.blk, 0 + ot, none⟩))).put (some d3) (.pointer (some ⟨xb, 0 + 0, none⟩))).put (some d4) (.int .u32 p.1)).put (some d5) (.pointer (some ⟨xb, 0 + 1, none⟩))).put (some d6) vv) d4 = .int .u32 p.1 := by
  rw [Zn (Ne.symm n46), Zn (Ne.symm n45), Zq (by simp only [Zs]; exact L f4.1)]
 have q6 : Act.get (((((a.put (some d2) (.pointer (some ⟨x.blk, 0 + ot, none⟩))).put (some d3) (.pointer (some ⟨xb, 0 + 0, none⟩))).put (some d4) (.int .u32 p.1)).put (some d5) (.pointer (some ⟨xb, 0 + 1, none⟩))).put (some d6) vv) d6 = vv := by
  rw [Zq (by simp only [Zs]; exact L f6.1)]
 have hsb : SameBut (fun t => t = d2 \/ t = d3 \/ t = d4 \/ t = d5 \/ t = d6) a (((((a.put (some d2) (.pointer (some ⟨x.blk, 0 + ot, none⟩))).put (some d3) (.pointer (some ⟨xb, 0 + 0, none⟩))).put (some d4) (.int .u32 p.1)).put (some d5) (.pointer (some ⟨xb, 0 + 1, none⟩))).put (some d6) vv) :=
  (((((SameBut.refl a).put (.inl rfl) _).put (.inr (.inl rfl)) _).put (.inr (.inr (.inl rfl))) _).put (.inr (.inr (.inr (.inl rfl)))) _).put (.inr (.inr (.inr (.inr rfl)))) _
 refine wpl_abs (fun b => TgS Γ lay x ot n B vs b w u /\ Act.get b d2 = .pointer (some ⟨x.blk, 0 + ot, none⟩) /\ Act.get b d4 = .int .u32 p.1 /\ Act.get b d6 = vv /\ SameBut (fun t => t = d2 \/ t = d3 \/ t = d4 \/ t = d5 \/ t = d6) a b) ⟨hL2, q2, q4, q6, hsb⟩ ?_
 rintro b ⟨hLb, r2, r4, r6, hsb'⟩
 have ee : (#[Operand.tmp d2, .tmp d4, .tmp d6] : Array Operand).map b.eval = #[.pointer (some ⟨x.blk, 0 + ot, none⟩), .int .u32 p.1, vv] := by simp [Ze, r2, r4, r6]
 refine wpl_call rfl (Zy hbd rfl) (by rw [ee]; exact ts_set hc hLb ho hp hu (fun C C' w h1 h2 => lay_off (sz := 0) hl h1 h2)) ?_
 rintro e w2 ⟨r', rfl, hL3⟩
 refine ⟨_, rfl, wpList_nil ⟨rfl, hL3.put h7 _, ?_⟩⟩
 refine ((hsb'.mono fun t ht => ?_).put ?_ _)
 ·rcases ht with rfl | rfl | rfl | rfl | rfl <;> simp [W, writes]
 ·simp [W, writes]
/-- the tags of a struct, all of them -/
def TagsSet (P : Program) (Γ : Fl) (σ : St) (ot : Nat) (c : Code) : Prop := ∀ (x : Fx) (vs : List Tr) (a : Act) (w : World), FA Γ x a w -> Cur { σ with tg := none } x.F x.blk 0 (vs, []) w -> UOk x.g.U -> c.wp P (fun e' a' w' => e' = .normal /\ FA { Γ with ot := none } x a' w' /\ Cur { σ with tg := some ot } x.F x.blk 0 (vs, x.g.U) w') a w
set_option maxHeartbeats 1000000 in
theorem tags_set (hot : Γ.ot = some ot) (h4f : fieldOff P TT 4 = some 4) (hLone : one P LG = true) (h2 : elemSize P LG = some 2) (hts : ts3[0]? = some LG) (hmG : many P TG 2 = true) (hsG : sized P TG 2 = true) (hzG : zeroOf P TG = some (.agg #[.int .u32 0, .slice none 0 0]))
  (hte : TagE P Γ σ.lay cs bx ot)
  (hs : (Γ.free u1 && Γ.free ul && Γ.free un && Γ.free ui && Γ.free uc && Γ.free v1 && Γ.free v2 && Γ.free bx && Γ.free x1 && decide ([ul, un, ui, uc, v1, v2, bx, x1] : List Nat).Nodup && decide (ul ∉ writes cs) && decide (un ∉ writes cs) && decide (ui ∉ writes cs)) = true) :
  TagsSet P Γ σ ot (.seq (.region i1 #[⟨some u1, .fieldAddr TT (.tmp Γ.tb) 4, y5, p5, e5, none⟩, ⟨some ul, .load LG (.tmp u1), y7, p7, e7, none⟩, ⟨some un, .call ⟨.builtin .len, #[.tmp ul], ts3⟩, y8, p8, e8, none⟩, ⟨some ui, .move (.const (.int .i64 0)), y9, p9, e9, none⟩] false)
    (.block b0 (.loop (.seq (.region i2 #[⟨some uc, .binOp .lss yb (.tmp ui) (.tmp un) yc, y10, p10, e10, none⟩] false) (.seq (.cond (.tmp uc) .skip (.exit b0))
     (.seq (.block b1 (.seq (.region i3 #[⟨some v1, .indexAddr LG (.tmp ul) (.tmp ui), y11, p11, e11, none⟩, ⟨some v2, .load TG (.tmp v1), y12, p12, e12, none⟩, ⟨some bx, .alloc TG, y13, p13, e13, none⟩, ⟨none, .store TG (.tmp bx) (.tmp v2), y14, p14, e14, none⟩] false) cs))
      (.region i4 #[⟨some x1, .binOp .add yd (.tmp ui) (.const (.int .i64 1)) yf, y15, p15, e15, none⟩, ⟨some ui, .move (.tmp x1), y16, p16, e16, none⟩] false))))))) := by
 intro x vs a w hA hC hU
 simp only [Bool.and_eq_true, decide_eq_true_eq] at hs
 obtain ⟨⟨⟨⟨⟨⟨⟨⟨⟨⟨⟨⟨g1, gl⟩, gn⟩, gi⟩, gc⟩, gv1⟩, gv2⟩, gbx⟩, gx1⟩, hnd⟩, wl⟩, wn⟩, wi⟩ := hs
 simp only [List.nodup_cons, List.mem_cons, List.not_mem_nil, or_false, not_or, not_false_eq_true, List.nodup_nil, and_true] at hnd
 obtain ⟨⟨lan, lai, lac, lav1, lav2, labx, lax1⟩, ⟨nai, nac, nav1, nav2, nabx, nax1⟩, ⟨iac, iav1, iav2, iabx, iax1⟩, ⟨cav1, cav2, cabx, cax1⟩, ⟨v1v2, v1bx, v1x1⟩, ⟨v2bx, v2x1⟩, bxx1⟩ := hnd
 obtain ⟨T0, hb0⟩ := hA.hb
 obtain ⟨sv, lv, uv, f, g, hct, hn, hS, hL, hLs, hE, hEs⟩ := tree_cells hA.tr hA.ct
 obtain ⟨ao, cap, huv⟩ := hE.slice
 obtain ⟨U, hUe⟩ : ∃ U, U = x.g.U := ⟨_, rfl⟩
 rw [<- hUe] at hU hE hEs huv
 show Code.wp P _ (fun e' a' w' => e' = .normal /\ FA { Γ with ot := none } x a' w' /\ Cur { σ with tg := some ot } x.F x.blk 0 (vs, x.g.U) w') a w
 rw [<- hUe]
 have hUl := hU.2.1
 -- the struct, apart from its tags
 obtain ⟨C, t, h1, h2', h3, _⟩ := hC.lt.mem
 obtain ⟨C0, t0, k1, k2⟩ := hA.nt ot hot
 rw [h1] at k1
 obtain ⟨rfl, rfl⟩ : C = C0 /\ t = t0 := by simpa using k1
 have hbl := lt_of_block h1
 have hFA0 : FA { Γ with ot := none } x a w := ⟨hA.size, hA.defers, hA.tree, hA.ptr, hA.hb, hA.ct, hA.tr, hA.mod, hA.lo, hA.ent, fun q hq => (by cases hq), hA.we, hA.res, hA.m1⟩
 have hTS : TgS Γ σ.lay x ot (0 + σ.sz) w.heap.size vs a w [] := ⟨hFA0, ⟨C, t, .map none, h1, h2', h3, k2, .inl ⟨rfl, rfl⟩⟩, Nat.le_refl _, hbl, hA.tlt, hA.ent⟩
 refine wp_seq (wp_region_lit (Zv rfl (Za h4f (b := x.tblk) (o0 := 0) (by rw [Ze]; exact hA.tree)) (Zv rfl (Zl hLone (b := x.tblk) (o := 0 + 4) (v := uv) ?_ (by rw [Zc hb0, hct]; rfl)) (Zv rfl (x_len (by rw [h2]; rfl) hts (ao := ao) (cap := cap) (n := U.length) ?_) (Zv rfl Zm (wpList_nil ?_))))))
 ·rw [Ze, Zq (hA.lt g1)]
 ·rw [Ze, Zq (by rw [Zs]; exact hA.lt gl), huv]
 refine wp_act (fun b : Act => TgS Γ σ.lay x ot (0 + σ.sz) w.heap.size vs b w [] /\ Act.get b ul = uv /\ Act.get b un = .int .i64 (U.length : Nat) /\ Act.get b ui = .int .i64 (0 : Nat)) ⟨(((hTS.put g1 _).put gl _).put gn _).put gi _, ?_, ?_, ?_⟩ ?_
 ·rw [Zn (Ne.symm lai), Zn (Ne.symm lan), Zq (by simp only [Zs]; exact hA.lt gl)]
 ·rw [Zn (Ne.symm nai), Zq (by simp only [Zs]; exact hA.lt gn)]
 ·rw [Zq (by simp only [Zs]; exact hA.lt gi)]; rfl
 rintro a5 ⟨hL5, s1, s2, s3⟩
 have hrise : ∀ q, q <= U.length -> ∀ (hq : q < U.length), setTag (U.take q) (U[q]).1 (U[q]).2 = U.take (q + 1) := fun q _ hq => by
  rw [List.take_succ_eq_append_getElem hq]
  refine setTag_end _ _ _ fun p hp => ?_
  have hpw := hU.1
  obtain ⟨j, hj, rfl⟩ := List.getElem_of_mem hp
  rw [List.getElem_take]
  have hjq : j < q := by simp at hj; omega
  exact List.pairwise_iff_getElem.1 hpw j q (by omega) hq hjq
 refine wp_for2
  (I := fun m b w1 => ∃ q, q + m = U.length /\ TgS Γ σ.lay x ot (0 + σ.sz) w.heap.size vs b w1 (U.take q) /\ Act.get b ul = uv /\ Act.get b un = .int .i64 (U.length : Nat) /\ Act.get b ui = .int .i64 (q : Nat))
  (J := fun m b w1 => ∃ q, q + (m + 1) = U.length /\ TgS Γ σ.lay x ot (0 + σ.sz) w.heap.size vs b w1 (U.take q) /\ Act.get b ul = uv /\ Act.get b un = .int .i64 (U.length : Nat) /\ Act.get b ui = .int .i64 (q : Nat))
  (K := fun m b w1 => ∃ q, q + (m + 1) = U.length /\ TgS Γ σ.lay x ot (0 + σ.sz) w.heap.size vs b w1 (U.take (q + 1)) /\ Act.get b ul = uv /\ Act.get b un = .int .i64 (U.length : Nat) /\ Act.get b ui = .int .i64 (q : Nat)) U.length ?_ ?_ ?_ ?_
 ·exact ⟨0, by omega, by simpa using hL5, s1, s2, s3⟩
 ·rintro m a6 w6 ⟨q, hq, hL6, r1, r2, r3⟩
  have hA6 := hL6.fa
  refine wp_region_lit (Zv rfl (x_lss (k := .i64) (m := (q : Nat)) (n := (U.length : Nat)) (by rw [Ze, r3]) (by rw [Ze, r2])) (wpList_nil ⟨rfl, ?_⟩))
  rw [Zq (hA6.lt gc)]
  cases m with
  | zero =>
   right
   have hqe : q = U.length := by omega
   rw [hqe, List.take_length] at hL6
   refine ⟨by congr 1; simp; omega, rfl, hL6.fa.put gc _, hL6.fin (σ := { σ with tg := some ot }) rfl rfl (Nat.le_refl _)⟩
  | succ m =>
   left
   refine ⟨m, rfl, by congr 1; simp; omega, q, by omega, hL6.put gc _, ?_, ?_, ?_⟩
   ·rw [Zn (Ne.symm lac), r1]
   ·rw [Zn (Ne.symm nac), r2]
   ·rw [Zn (Ne.symm iac), r3]
 ·rintro m a6 w6 ⟨q, hq, hL6, r1, r2, r3⟩
  have hql : q < U.length := by omega
  have hA6 := hL6.fa
  rcases hE with ⟨h0, _⟩ | ⟨kb, off, cap', Ct, tC, fr, c1, c2, c3, c4, c5⟩
  ·omega
  have c4' := hA6.mod.some c4 (fun f => f)
  obtain ⟨q1, q2, q3⟩ := hEs q hql
  obtain ⟨vv, hvv⟩ : ∃ vv, vv = g q 1 := ⟨_, rfl⟩
  have e0 := c5 q hql 0 (by omega)
  have e1 := c5 q hql 1 (by omega)
  rw [q1] at e0
  rw [<- hvv] at e1 q3
  refine wp_seq (wp_region_lit (Zv rfl (Zx (sz := 2) (i := q) (b := kb) (o := off) (n := U.length) (cap := cap') (k := .i64) h2 (by rw [Ze, r1, c1]) (by rw [Ze, r3]) hql) ?_))
  have n1 : Act.get (a6.put (some v1) (.pointer (some ⟨kb, off + q * 2, none⟩))) v1 = .pointer (some ⟨kb, off + q * 2, none⟩) := Zq (hA6.lt gv1)
  refine Zv rfl (x_loadN (cs := [.int .u32 (U[q]).1, vv]) (b := kb) (o := off + q * 2) hmG (by rw [Ze]; exact n1) (fun j v hv => by
   rw [Zc c4']
   rcases j with _ | _ | j
   ·rw [<- hv]; exact e0
   ·rw [<- hv]; exact e1
   ·simp at hv)) (Zv rfl (x_alloc hzG) ?_)
  obtain ⟨va, vc, hvs, _⟩ := q3.slice
  have r1' := Zh w6 (.cells (Value.agg #[.int .u32 0, .slice none 0 0]).cells TG)
  have m7 : Mod none' w6 (w6.alloc (.cells (Value.agg #[.int .u32 0, .slice none 0 0]).cells TG)) := (Mod.refl w6).alloc _
  generalize w6.alloc (.cells (Value.agg #[.int .u32 0, .slice none 0 0]).cells TG) = w7 at *
  obtain ⟨xb, hxb⟩ : ∃ b, b = w6.heap.size := ⟨_, rfl⟩
  rw [<- hxb] at r1' ⊢
  refine wpl_skip rfl (x_storeN (cs := #[.int .u32 (U[q]).1, vv]) (b := xb) (o := 0) hsG ?_ ?_ (by rw [hvs]; simp [Value.oneCell']) ?_) (wpList_nil ?_)
  ·rw [Ze, Zq (by simp only [Zs]; exact hA6.lt gbx)]
  ·rw [Ze, Zn (Ne.symm v2bx), Zq (by simp only [Zs]; exact hA6.lt gv2)]
  ·intro j hj
   have hj2 : j < 2 := hj
   rw [Zc r1', Zz r1', Nat.zero_add, Array.getElem?_eq_getElem (by show j < 2; omega)]
   exact ⟨rfl, rfl⟩
  rw [Zo]
  have k2 := put_tree (cs := #[.int .u32 (U[q]).1, vv]) r1' rfl
  have m8 := mod_setCells xb w7 0 (#[.int .u32 (U[q]).1, vv] : Array Value).toList
  have m68 : Mod none' w6 (w7.setCells xb 0 (#[.int .u32 (U[q]).1, vv] : Array Value).toList) := m7.trans' m8 (fun _ _ f => f) (fun j hj e => by have e' : j = xb := e; omega)
  generalize w7.setCells xb 0 (#[.int .u32 (U[q]).1, vv] : Array Value).toList = w8 at *
  have hL8 := (((hL6.new m68).put gv1 (.pointer (some ⟨kb, off + q * 2, none⟩))).put gv2 (.agg #[.int .u32 (U[q]).1, vv])).put gbx (.pointer (some ⟨xb, 0, none⟩))
  have hlq : (U.take q).length = q := by rw [List.length_take]; omega
  have hpq := hU.2.2 _ (List.getElem_mem hql)
  refine wp_mono (hte x vs _ w8 _ _ _ xb TG vv U[q] hL8 (Zq (by simp only [Zs]; exact hA6.lt gbx)) k2 q3 hpq (by rw [hlq]; have := hU.2.1; omega)) ?_
  rintro e' a9 w9 ⟨rfl, hL9, hsb9⟩
  rw [hrise q (by omega) hql] at hL9
  refine ⟨rfl, q, hq, hL9, ?_, ?_, ?_⟩
  ·rw [hsb9.get _ wl, Zn (Ne.symm labx), Zn (Ne.symm lav2), Zn (Ne.symm lav1), r1]
  ·rw [hsb9.get _ wn, Zn (Ne.symm nabx), Zn (Ne.symm nav2), Zn (Ne.symm nav1), r2]
  ·rw [hsb9.get _ wi, Zn (Ne.symm iabx), Zn (Ne.symm iav2), Zn (Ne.symm iav1), r3]
 ·rintro m a6 w6 ⟨q, hq, hL6, r1, r2, r3⟩
  have hA6 := hL6.fa
  refine wp_region_lit (Zv rfl (x_add (k := .i64) (m := (q : Nat)) (n := 1) (by rw [Ze, r3]) rfl) (Zv rfl Zm (wpList_nil ⟨rfl, q + 1, by omega, (hL6.put gx1 _).put gi _, ?_, ?_, ?_⟩)))
  ·rw [Zn (Ne.symm lai), Zn (Ne.symm lax1), r1]
  ·rw [Zn (Ne.symm nai), Zn (Ne.symm nax1), r2]
  ·rw [Zq (by simp only [Zs]; exact hA6.lt gi), Ze, Zq (hA6.lt gx1)]
   congr 1
   rw [IntKind.wrap_i64]; omega
end
end Go.Proofs.YtmehfgiadapekaaGreat
