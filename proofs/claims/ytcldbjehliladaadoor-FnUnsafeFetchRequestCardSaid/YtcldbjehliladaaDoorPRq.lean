/-
  Rules for the code that reads a message's parts: lists as fields; parts within; 16 octets. No program in it.
-/
import Derived.Test.YtcldbjehliladaaDoorPRp
set_option linter.unusedSimpArgs false
set_option linter.unusedVariables false
namespace Go.Proofs.YtcldbjehliladaaDoor
open Go Go.RowKit
section
variable {P : Program} {Γ : Sl} {σ σ' : St} {f g : FT} {id id' id1 id2 id3 id4 id5 : Nat} {ty ety : Ty} {rd rdl : Int -> Bool -> RS -> Tr × RS} {sa sl si sv sz b0 b1 : Nat} {z : Nat -> Value} {ef : EF} {nv : Int -> Int -> Bool}
 {y1 y2 y3 y4 y5 y6 y7 y8 y9 y10 y11 y12 y13 y14 y15 : TypeId} {p1 p2 p3 p4 p5 p6 p7 p8 p9 p10 p11 p12 p13 p14 p15 : String} {e1 e2 e3 e4 e5 e6 e7 e8 e9 e10 e11 e12 e13 e14 e15 : Array Edge} {ts ts1 ts2 : Array TypeId} {t1 t2 t3 t4 t5 t6 t7 t8 t9 t10 t11 t12 : Nat} {yg yh ym yn : TypeId}
 {c c2 co cc cg cL cl cn : Code} {i o k T LT tv tw yt : Nat}
theorem get_int {x : Cx} {a' : Act} {w w' : World} {t : Nat} {u : Tr} {kd : IntKind} (hV : ∀ F : Nat -> Prop, F x.sb -> (∀ k, w.heap.size <= k -> F k) -> RepV w' F (.int kd) (Act.get a' t) u) : ∃ n, Act.get a' t = .int kd n /\ fits kd n /\ u.N = n := by
 rcases hV (fun _ => True) trivial (fun _ _ => trivial) with ⟨_, _, h⟩ | ⟨h, _⟩
 ·simp only [Rep] at h
  obtain ⟨n, h1, h2, h3⟩ := h
  exact ⟨n, h1, h2, by rw [h3]; rfl⟩
 ·cases h
/-- a list as a field -/
theorem blk_list (hat : σ.lay.at i = some (o, .list ety sz)) (hok : σ.okAt i o (.list ety sz) = true) (hf : fieldOff P T k = some o) (h1 : one P LT = true) (hsz : sized P LT 1 = true)
  (hl : Get P Γ cl sl (.int .i32) rdl) (ho : OkC P Γ co) (hc : CutC P Γ cc sa) (hg : GrowC P Γ cg sa sl sz z) (hL : LoopC P Γ cL sa sl ety sz z ef)
  (hs : (Γ.free t1 && Γ.free t2 && Γ.free t3 && Γ.free t4 && Γ.free t5 && Γ.free sv && Γ.free sa && Γ.free sl && t1 != σ.s && t2 != σ.s && t3 != σ.s && t4 != σ.s && t5 != σ.s && sv != σ.s && sa != σ.s && sl != σ.s && sl != sa) = true)
  (hs2 : (Γ.free t6 && Γ.free t7 && Γ.free t8 && Γ.free t9 && Γ.free t10 && Γ.free sv && t7 != sv && t8 != t7 && t9 != t8 && t10 != t8 && t6 != σ.s && t7 != σ.s && t8 != σ.s && t9 != σ.s && t10 != σ.s && sv != σ.s &&
   !(writes co).contains σ.s && !(writes cc).contains σ.s && !(writes cg).contains σ.s && !(writes cL).contains σ.s && !(writes co).contains sa && !(writes co).contains sl && !(writes cc).contains sl && !(writes cg).contains sl && !(writes cL).contains sa) = true)
  (hs3 : (!(writes cl).contains σ.s && !(writes cl).contains sa) = true) :
  Blk P Γ σ (.seq (.region id1 #[⟨some t1, .move (.tmp σ.s), y1, p1, e1, none⟩, ⟨some t2, .nilCheck (.tmp t1), y2, p2, e2, none⟩, ⟨some t3, .fieldAddr T (.tmp t2) k, y3, p3, e3, none⟩, ⟨some t4, .load LT (.tmp t3), y4, p4, e4, none⟩, ⟨some sv, .assign (.tmp t4), y5, p5, e5, none⟩] false)
   (.seq (.region id2 #[⟨some t5, .move (.tmp sv), y6, p6, e6, none⟩, ⟨some sa, .assign (.tmp t5), y7, p7, e7, none⟩] false) (.seq (.region id3 #[⟨some sl, .assign (.const (.int .i32 0)), y8, p8, e8, none⟩] false)
   (.seq cl (.seq co (.seq cc (.seq cg (.seq cL (.seq (.region id4 #[⟨some t6, .move (.tmp sa), y9, p9, e9, none⟩, ⟨some sv, .assign (.tmp t6), y10, p10, e10, none⟩] false)
   (.region id5 #[⟨some t7, .move (.tmp σ.s), y11, p11, e11, none⟩, ⟨some t8, .move (.tmp sv), y12, p12, e12, none⟩, ⟨some t9, .nilCheck (.tmp t7), y13, p13, e13, none⟩, ⟨some t10, .fieldAddr T (.tmp t9) k, y14, p14, e14, none⟩, ⟨none, .store LT (.tmp t10) (.tmp t8), y15, p15, e15, none⟩] false))))))))))
   (listF i rdl (fun _ _ => false) ef) := by
 intro x F blk off v s a w hA hp hC hS hns
 simp only [Bool.and_eq_true, Bool.not_eq_true', List.contains_eq_mem, decide_eq_false_iff_not] at hs3
 by_cases hnul : isNul v.1[i]? = true
 ·have e0 : listF i rdl (fun _ _ => false) ef x.ver x.flex v s = tailR i false (rdl x.ver x.flex s).1.N (ef x.ver x.flex) v (rdl x.ver x.flex s).2 := by simp only [listF, hnul, if_true]
  rw [e0] at hns ⊢
  refine list_head hat hok hf h1 hs hA hp hC hnul (fun a1 hA1 hp1 hva1 hsb1 => ?_)
  refine wp_seq (wp_mono (hl x s a1 w hA1) ?_)
  rintro e a2 w2 ⟨rfl, hA2, hV, hsb2, hmod⟩
  obtain ⟨n, hn1, hn2, hn3⟩ := get_int hV
  have hfit : n <= 2147483647 := by simp [fits, IntKind.min, IntKind.max, IntKind.signed, IntKind.bits] at hn2; omega
  rw [hn3] at hns ⊢
  have hva2 : Act.get a2 sa = .slice none 0 0 := (hsb2.get _ hs3.2).trans hva1
  refine wp_mono (list_tail hat hok hf hsz ho hc hg hL hs2 hA2 ((hsb2.get _ hs3.1).trans hp1) (hC.later hmod hS.rb (fun k hk => (hS.apart k hk).1)) (hS.later hmod.size) hn1 hfit (.inl ⟨rfl, hva2⟩) hns) ?_
  intro e a3 w3 h
  cases e with
  | normal =>
   obtain ⟨v', s', q1, q2, q3, q4, q5⟩ := h
   refine ⟨v', s', q1, q2, q3, (hsb1.mono fun t ht => ?_).trans ((hsb2.mono fun t ht => ?_).trans (q4.mono fun t ht => ?_)), (Stp.of_rd hmod hS.rb).trans q5⟩
   ·rcases ht with rfl | rfl | rfl | rfl | rfl | rfl | rfl | rfl <;> simp [W, writes]
   ·have : t ∈ writes cl := ht
    simp [W, writes, this]
   ·rcases ht with ht | ht | ht | ht | ht | ht | ht | ht | ht | ht
    all_goals first | (subst ht; simp [W, writes]; done) | (have ht' : t ∈ writes _ := ht; simp [W, writes, ht'])
  | ret => exact ⟨h.1, h.2.1, h.2.2.1, (Stp.of_rd hmod hS.rb).trans h.2.2.2⟩
  | _ => exact h.elim
 ·exact (hns (by simp [listF, hnul])).elim
/-- a part within a struct -/
theorem blk_sub {rest : Code} {sp fd : Nat} {d : SV -> SV} (hr : Blk P Γ σ' rest f) (hd : DfC P fd σ' d) (hbd : bodied P fd = true) (hat : σ.lay.at i = some (o, .struct σ'.lay σ'.tg σ'.sz)) (hok : σ.okAt i o (.struct σ'.lay σ'.tg σ'.sz) = true) (hf : fieldOff P T k = some o)
  (hs : (Γ.free t1 && Γ.free t2 && Γ.free t3 && Γ.free t4 && Γ.free t5 && Γ.free t6 && Γ.free sp && Γ.free σ'.s && t4 != sp && t5 != sp) = true) :
  Blk P Γ σ (.seq (.region id1 #[⟨some t1, .move (.tmp σ.s), y1, p1, e1, none⟩, ⟨some t2, .nilCheck (.tmp t1), y2, p2, e2, none⟩, ⟨some t3, .fieldAddr T (.tmp t2) k, y3, p3, e3, none⟩, ⟨some sp, .assign (.tmp t3), y4, p4, e4, none⟩] false)
   (.seq (.region id2 #[⟨some t4, .move (.tmp sp), y5, p5, e5, none⟩, ⟨some t5, .call ⟨.value (.func fd), #[.tmp t4], ts⟩, y6, p6, e6, none⟩] false)
   (.seq (.region id3 #[⟨some t6, .move (.tmp sp), y7, p7, e7, none⟩, ⟨some σ'.s, .assign (.tmp t6), y8, p8, e8, none⟩] false) rest))) (subF i d f) := by
 intro x F blk off v s a w hA hp hC hS hns
 simp only [Bool.and_eq_true, bne_iff_ne] at hs
 obtain ⟨⟨⟨⟨⟨⟨⟨⟨⟨f1, f2⟩, f3⟩, f4⟩, f5⟩, f6⟩, fp⟩, fs⟩, n4p⟩, n5p⟩ := hs
 have z1 := hA.lt f1
 have z2 := hA.lt f2
 have z3 := hA.lt f3
 have z4 := hA.lt f4
 have z5 := hA.lt f5
 have z6 := hA.lt f6
 have zp := hA.lt fp
 have zs := hA.lt fs
 obtain ⟨C, tc, hb, hC2, hrep, htags⟩ := hC.mem
 obtain ⟨t0, ht0, hrep0⟩ := RepL.get _ _ _ _ _ _ hat hrep
 simp only [Rep] at hrep0
 obtain ⟨vs, u, hrl, htg, rfl⟩ := hrep0
 have hget : v.1.getD i .nul = .part vs u := by simp [List.getD, ht0]
 have e0f : subF i d f x.ver x.flex v s = (f x.ver x.flex (d (vs, u)) s).then fun v' s' => .ok (v.1.set i (.part v'.1 v'.2), v.2) s' := by
  simp only [subF, hget]; rfl
 rw [e0f] at hns ⊢
 have hns1 : f x.ver x.flex (d (vs, u)) s ≠ .stuck := fun e => hns (by simp [e, R.then])
 simp only [St.okAt, Bool.and_eq_true] at hok
 have hin := Lay.at_in _ _ _ _ _ _ hok.1.1 hat
 simp only [Ty.size] at hin
 have hcur : Cur σ' F blk (off + o) (vs, u) w := by
  refine ⟨C, tc, hb, by omega, ?_, ?_⟩
  ·have e : from' C (off + o) = fun j => from' C off (o + j) := by funext j; simp only [from', Nat.add_assoc]
   rw [e]; exact hrl
  ·cases hg : σ'.tg with
   | none => rw [hg] at htg; exact htg
   | some q =>
    rw [hg] at htg
    show TagsR w F (from' C (off + o) q) u
    have : from' C (off + o) q = from' C off (o + q) := by simp only [from', Nat.add_assoc]
    rw [this]; exact htg
 refine wp_seq (wp_region_lit (Zv rfl Zm (Zv rfl (x_nilCheck (q := ⟨blk, off, none⟩) ?_) (Zv rfl (Za hf (b := blk) (o0 := off) ?_) (Zv rfl Zi (wpList_nil ?_))))))
 ·rw [Ze, Zq z1, Ze, hp]
 ·rw [Ze, Zq (by simp only [Zs]; exact z2)]
 refine wp_act (fun a1 => Amb Γ x s a1 w /\ Act.get a1 sp = .pointer (some ⟨blk, off + o, none⟩) /\ SameBut (fun t => t = t1 \/ t = t2 \/ t = t3 \/ t = sp) a a1) ⟨(((hA.put f1 _).put f2 _).put f3 _).put fp _, ?_, ((((SameBut.refl a).put (.inl rfl) _).put (.inr (.inl rfl)) _).put (.inr (.inr (.inl rfl))) _).put (.inr (.inr (.inr rfl))) _⟩ ?_
 ·rw [Zq (by simp only [Zs]; exact zp), Ze, Zq (by simp only [Zs]; exact z3)]
 rintro a1 ⟨hA1, hp1, hsb1⟩
 have q1 : a1.tmps.size = a.tmps.size := hsb1.size
 have e0 : ∀ a : Act, Act.get a t4 = .pointer (some ⟨blk, off + o, none⟩) -> (#[Operand.tmp t4] : Array Operand).map a.eval = #[.pointer (some ⟨blk, off + o, none⟩)] := fun a h => by simp [Ze, h]
 refine wp_seq (wp_region_lit (Zv rfl Zm (wpl_call rfl (Zy hbd rfl) (R := fun e w' => (∃ r, e = .returned r) /\ Mod (only blk) w w' /\ Cur σ' F blk (off + o) (d (vs, u)) w' /\
  ∀ C t, w.heap[blk]? = some (.cells C t (0, 0)) -> ∃ C', w'.heap[blk]? = some (.cells C' t (0, 0)) /\ C'.size = C.size /\ ∀ j, j < off + o \/ off + o + σ'.sz <= j -> C'[j]? = C[j]?) ?_ ?_)))
 ·rw [e0 _ (by rw [Zq (by rw [q1]; exact z4), Ze, hp1])]
  exact hd F blk (off + o) (vs, u) w hcur (fun b hb => (hS.apart b hb).2)
 rintro e w1 ⟨⟨r, rfl⟩, hm1, hcur1, hout1⟩
 refine ⟨r, rfl, wpList_nil ?_⟩
 have hS1 := hS.later hm1.size
 refine wp_act (fun a2 => Amb Γ x s a2 w1 /\ Act.get a2 sp = .pointer (some ⟨blk, off + o, none⟩) /\ SameBut (fun t => t = t4 \/ t = t5) a1 a2) ⟨?_, ?_, ((SameBut.refl a1).put (.inl rfl) _).put (.inr rfl) _⟩ ?_
 ·have h := (hA1.put f4 (a1.eval (.tmp sp))).put f5 r
  exact h.world (h.rd.mod hm1 (fun e => hS.rb e.symm) (fun e => (hS.apart _ hS.src).2 e)) (h.err.mod hm1 (fun e => hS.glob e.symm))
 ·rw [Zn n5p, Zn n4p, hp1]
 rintro a2 ⟨hA2, hp2, hsb2⟩
 have q2 : a2.tmps.size = a1.tmps.size := hsb2.size
 refine wp_seq (wp_region_lit (Zv rfl Zm (Zv rfl Zi (wpList_nil ?_))))
 refine wp_act (fun a3 => Amb Γ x s a3 w1 /\ Act.get a3 σ'.s = .pointer (some ⟨blk, off + o, none⟩) /\ SameBut (fun t => t = t6 \/ t = σ'.s) a2 a3) ⟨(hA2.put f6 _).put fs _, ?_, ((SameBut.refl a2).put (.inl rfl) _).put (.inr rfl) _⟩ ?_
 ·rw [Zq (by simp only [Zs]; rw [q2, q1]; exact zs), Ze, Zq (by rw [q2, q1]; exact z6), Ze, hp2]
 rintro a3 ⟨hA3, hp3, hsb3⟩
 refine wp_mono (hr x F blk (off + o) (d (vs, u)) s a3 w1 hA3 hp3 hcur1 hS1 hns1) ?_
 have hst1 : Stp x blk off σ.sz w w1 := ⟨hm1.mono fun _ _ e => .inr e, fun D td hD => by obtain ⟨C', c1, c2, c3⟩ := hout1 D td hD; exact ⟨C', c1, c2, fun j hj => c3 j (by omega)⟩⟩
 have hst2 : ∀ w4, Stp x blk (off + o) σ'.sz w1 w4 -> Stp x blk off σ.sz w w4 := fun w4 h => hst1.trans ⟨h.mod, fun D td hD => by obtain ⟨C', c1, c2, c3⟩ := h.out D td hD; exact ⟨C', c1, c2, fun j hj => c3 j (by omega)⟩⟩
 intro e a4 w4 h4
 cases e with
 | normal =>
  obtain ⟨v', s', e4, hA4, hC4, hsb4, hst⟩ := h4
  refine ⟨(v.1.set i (.part v'.1 v'.2), v.2), s', by simp only [e4, R.then], hA4, ?_, ?_, hst2 w4 hst⟩
  ·obtain ⟨C1, c1, c2, c3⟩ := hout1 C tc hb
   obtain ⟨C2, d1, d2, d3⟩ := hst.out C1 tc c1
   obtain ⟨C4, t4', k1, k2, k3, k4⟩ := hC4.mem
   rw [d1] at k1
   obtain ⟨rfl, rfl⟩ : C2 = C4 /\ tc = t4' := by simpa using k1
   have hmod := (hst2 w4 hst).mod
   have hF' : ∀ k, F k -> ¬ (k = x.rb \/ k = blk) := fun k hk e => by rcases e with e | e; exact (hS.apart k hk).1 e; exact (hS.apart k hk).2 e
   have hsame : ∀ j, j < σ.sz -> j < o \/ o + σ'.sz <= j -> from' C2 off j = from' C off j := fun j _ hj => by
    simp only [from', Array.getD_eq_getD_getElem?]
    rw [d3 (off + j) (by omega), c3 (off + j) (by omega)]
   refine ⟨C2, tc, d1, by omega, ?_, ?_⟩
   ·refine RepL.set _ 0 σ.sz i o (.struct σ'.lay σ'.tg σ'.sz) (from' C off) _ _ (.part v'.1 v'.2) hok.1.1 hat (fun j _ h2 h3 => hsame j h2 (by simpa [Ty.size] using h3)) ?_ (hrep.mod hmod hF' (fun _ h => h))
    simp only [Rep]
    refine ⟨v'.1, v'.2, ?_, ?_, rfl⟩
    ·have e : from' C2 (off + o) = fun j => from' C2 off (o + j) := by funext j; simp only [from', Nat.add_assoc]
     rw [e] at k3; exact k3
    ·cases hg : σ'.tg with
     | none => rw [hg] at k4; exact k4
     | some q =>
      rw [hg] at k4
      have k5 : TagsR w4 F (from' C2 (off + o) q) v'.2 := k4
      have : from' C2 (off + o) q = from' C2 off (o + q) := by simp only [from', Nat.add_assoc]
      rw [this] at k5; exact k5
   ·cases hq : σ.tg with
    | none => rw [hq] at htags; exact htags
    | some q =>
     rw [hq] at htags
     have htq := hok.1.2
     rw [hq] at htq
     simp only [Ty.size, Bool.and_eq_true, Bool.or_eq_true, decide_eq_true_eq] at htq
     show TagsR w4 F (from' C2 off q) v.2
     rw [hsame q htq.1 (htq.2.imp (fun h => h) (fun h => of_decide_eq_true h))]
     exact TagsR.mod htags hmod hF' (fun _ h => h)
  ·refine (hsb1.mono fun t ht => ?_).trans ((hsb2.mono fun t ht => ?_).trans ((hsb3.mono fun t ht => ?_).trans (hsb4.mono fun t ht => ?_)))
   ·rcases ht with rfl | rfl | rfl | rfl <;> simp [W, writes]
   ·rcases ht with rfl | rfl <;> simp [W, writes]
   ·rcases ht with rfl | rfl <;> simp [W, writes]
   ·have : t ∈ writes rest := ht
    simp [W, writes, this]
 | ret => exact ⟨by simp [h4.1, R.then], h4.2.1, h4.2.2.1, hst2 w4 h4.2.2.2⟩
 | _ => exact h4.elim
end
end Go.Proofs.YtcldbjehliladaaDoor
