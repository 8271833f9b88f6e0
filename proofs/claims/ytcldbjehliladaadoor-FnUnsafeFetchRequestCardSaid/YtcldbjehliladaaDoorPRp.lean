/-
  Rules for the code that reads a message's parts: values handed on, lists, tags, parts within, 16 octets. No program in it but for the reading of tags.
-/
import Derived.Test.YtcldbjehliladaaDoorPTh
set_option linter.unusedSimpArgs false
set_option linter.unusedVariables false
namespace Go.Proofs.YtcldbjehliladaaDoor
open Go Go.RowKit
/-- code that puts the value of a slot into a field -/
def BlkV (P : Program) (Γ : Sl) (σ : St) (tv : Nat) (ty : Ty) (i : Nat) (c : Code) : Prop :=
 ∀ x F blk off v s a w u, Amb Γ x s a w -> Act.get a σ.s = .pointer (some ⟨blk, off, none⟩) -> Cur σ F blk off v w -> Sep x F blk w -> RepV w F ty (Act.get a tv) u ->
  c.wp P (fun e a' w' => e = .normal /\ Amb Γ x s a' w' /\ Cur σ F blk off (v.1.set i u, v.2) w' /\ SameBut (W c) a a' /\ Stp x blk off σ.sz w w') a w
def Lay.avoid : Lay -> Nat -> Bool
 | .nil, _ => true
 | .cons o' t r, o => (decide (o < o') || decide (o' + t.size <= o)) && t.ok && r.avoid o
theorem RepL.avoid {w : World} {F : Nat -> Prop} {o : Nat} : ∀ (lay : Lay) (c c' : Nat -> Value) (vs : List Tr), lay.avoid o = true -> (∀ j, j ≠ o -> c' j = c j) -> RepL w F lay c vs -> RepL w F lay c' vs
 | .nil, _, _, _, _, _, h => h
 | .cons o' t r, c, c', vs, hl, hc, h => by
  simp only [Lay.avoid, Bool.and_eq_true, Bool.or_eq_true, decide_eq_true_eq] at hl
  simp only [RepL] at h ⊢
  obtain ⟨v, vs', h1, h2, h3⟩ := h
  exact ⟨v, vs', h1, Rep.congr t _ _ _ hl.1.2 (fun j hj => hc _ (by omega)) h2, RepL.avoid r c c' vs' hl.2 hc h3⟩
def Tr.U : Tr -> Tags
 | .mk _ _ _ _ u => u
/-- tags are read -/
def tagF : FT := fun _ _ v s => .ok (v.1, (rdTags s).1) (rdTags s).2
/-- a part within -/
def subF (i : Nat) (d : SV -> SV) (f : FT) : FT := fun ver fl v s => (f ver fl (d ((v.1.getD i .nul).L, (v.1.getD i .nul).U)) s).then fun v' s' => .ok (v.1.set i (.part v'.1 v'.2), v.2) s'
section
variable {P : Program} {Γ : Sl} {σ σ' : St} {f g : FT} {id id' id1 id2 id3 id4 id5 : Nat} {ty ety : Ty} {rd rdl : Int -> Bool -> RS -> Tr × RS} {sa sl si sv sz b0 b1 : Nat} {z : Nat -> Value} {ef : EF} {nv : Int -> Int -> Bool}
 {y1 y2 y3 y4 y5 y6 y7 y8 y9 y10 y11 y12 y13 y14 y15 : TypeId} {p1 p2 p3 p4 p5 p6 p7 p8 p9 p10 p11 p12 p13 p14 p15 : String} {e1 e2 e3 e4 e5 e6 e7 e8 e9 e10 e11 e12 e13 e14 e15 : Array Edge} {ts ts1 ts2 : Array TypeId} {t1 t2 t3 t4 t5 t6 t7 t8 t9 t10 t11 t12 : Nat} {yg yh ym yn : TypeId}
 {c c2 co cc cg cL cl cn : Code} {i o k T LT tv tw yt : Nat}
theorem blkV_put (hat : σ.lay.at i = some (o, ty)) (hok : σ.okAt i o ty = true) (hf : fieldOff P T k = some o) (hsz : sized P yt ty.size = true)
  (hs : (Γ.free t1 && Γ.free t2 && Γ.free t3 && Γ.free t4 && t1 != tv && t2 != t1 && t3 != t2 && t4 != t2 && t1 != σ.s && t2 != σ.s && t3 != σ.s && t4 != σ.s) = true) :
  BlkV P Γ σ tv ty i (.region id #[⟨some t1, .move (.tmp σ.s), y1, p1, e1, none⟩, ⟨some t2, .move (.tmp tv), y2, p2, e2, none⟩, ⟨some t3, .nilCheck (.tmp t1), y3, p3, e3, none⟩,
   ⟨some t4, .fieldAddr T (.tmp t3) k, y4, p4, e4, none⟩, ⟨none, .store yt (.tmp t4) (.tmp t2), y5, p5, e5, none⟩] false) := by
 intro x F blk off v s a w u hA hp hC hS hV
 refine wp_mono (put_region hat hok hf hsz hs hA hp hC hS hV) ?_
 rintro e a' w' ⟨rfl, h1, h2, h3, h4⟩
 refine ⟨rfl, h1, h2, h3.mono fun t ht => ?_, h4⟩
 rcases ht with rfl | rfl | rfl | rfl <;> simp [W, writes]
/-- a reading, and what becomes of it -/
theorem blk_get (hg : Get P Γ c tv ty rd) (h : BlkV P Γ σ tv ty i c2) (hs : (!(writes c).contains σ.s) = true) : Blk P Γ σ (.seq c c2) (putF i rd) := by
 intro x F blk off v s a w hA hp hC hS _
 have hs' : ¬ σ.s ∈ writes c := by simpa using hs
 refine wp_seq (wp_mono (hg x s a w hA) ?_)
 rintro e a1 w1 ⟨rfl, hA1, hV, hsb, hmod⟩
 have hS1 := hS.later hmod.size
 refine wp_mono (h x F blk off v _ a1 w1 _ hA1 ((hsb.get _ hs').trans hp) (hC.later hmod hS.rb (fun k hk => (hS.apart k hk).1)) hS1 (hV F hS.src hS.fresh)) ?_
 rintro e a' w' ⟨rfl, h1, h2, h3, h4⟩
 exact ⟨_, _, rfl, h1, h2, (hsb.mono fun t ht => by simp only [W, writes, List.mem_append] at *; exact .inl ht).trans (h3.mono fun t ht => by simp only [W, writes, List.mem_append] at *; exact .inr ht), (Stp.of_rd hmod hS.rb).trans h4⟩
/-- the tags -/
theorem blk_tag {fR TT : Nat} (hR : TagC P fR) (hb : bodied P fR = true) (htg : σ.tg = some o) (hf : fieldOff P T k = some o) (hsz : sized P TT 1 = true) (hav : (σ.lay.avoid o && decide (o < σ.sz)) = true)
  (hs : (Γ.free t1 && Γ.free t2 && Γ.free t3 && Γ.free t4 && t1 != σ.s && t2 != σ.s && t3 != σ.s && t4 != σ.s && t2 != t1 && t3 != t2 && t4 != t2) = true) :
  Blk P Γ σ (.region id #[⟨some t1, .move (.tmp σ.s), y1, p1, e1, none⟩, ⟨some t2, .call ⟨.value (.func fR), #[.tmp Γ.b], ts⟩, y2, p2, e2, none⟩, ⟨some t3, .nilCheck (.tmp t1), y3, p3, e3, none⟩, ⟨some t4, .fieldAddr T (.tmp t3) k, y4, p4, e4, none⟩,
   ⟨none, .store TT (.tmp t4) (.tmp t2), y5, p5, e5, none⟩] false) tagF := by
 intro x F blk off v s a w hA hp hC hS _
 simp only [Bool.and_eq_true, bne_iff_ne, decide_eq_true_eq] at hs hav
 obtain ⟨⟨⟨⟨⟨⟨⟨⟨⟨⟨f1, f2⟩, f3⟩, f4⟩, m1⟩, m2⟩, m3⟩, m4⟩, n21⟩, n32⟩, n42⟩ := hs
 have z1 := hA.lt f1
 have z2 := hA.lt f2
 have z3 := hA.lt f3
 have z4 := hA.lt f4
 refine wp_region_lit (Zv rfl Zm ?_)
 simp only [Ze, hp]
 have hA1 := hA.put f1 (.pointer (some ⟨blk, off, none⟩))
 have e0 : ∀ a : Act, Act.get a Γ.b = .pointer (some ⟨x.rb, 0, none⟩) -> (#[Operand.tmp Γ.b] : Array Operand).map a.eval = #[.pointer (some ⟨x.rb, 0, none⟩)] := fun a h => by simp [Ze, h]
 refine wpl_call rfl (Zy hb rfl) (by rw [e0 _ hA1.b]; exact hR w x.rb x.sb s hA.rd hS.old) ?_
 rintro e w1 ⟨⟨mv, rfl, hT⟩, hrd, hmod⟩
 refine ⟨_, rfl, ?_⟩
 have hT1 := hT F hS.src hS.fresh
 have hone : mv.oneCell' = true := by rcases hT1.split with ⟨h, _⟩ | ⟨r, _, h, _⟩ <;> (rw [h]; rfl)
 have hC1 : Cur σ F blk off v w1 := hC.later hmod hS.rb (fun k hk => (hS.apart k hk).1)
 obtain ⟨C, t, h1, h2, h3, h4⟩ := hC1.mem
 refine Zv rfl (x_nilCheck (q := ⟨blk, off, none⟩) (by rw [Ze, Zn n21, Zq z1])) ?_
 refine Zv rfl (Za hf (b := blk) (o0 := off) (by rw [Ze, Zq (by simp only [Zs]; exact z3)])) ?_
 refine wpl_abs (fun a2 => Amb Γ x s a2 w /\ SameBut (fun t => t = t1 \/ t = t2 \/ t = t3 \/ t = t4) a a2 /\ Act.get a2 t4 = .pointer (some ⟨blk, off + o, none⟩) /\ Act.get a2 t2 = .agg #[mv]) ⟨((hA1.put f2 _).put f3 _).put f4 _, ((((SameBut.refl a).put (.inl rfl) _).put (.inr (.inl rfl)) _).put (.inr (.inr (.inl rfl))) _).put (.inr (.inr (.inr rfl))) _, ?_, ?_⟩ ?_
 ·rw [Zq (by simp only [Zs]; exact z4)]
 ·rw [Zn n42, Zn n32, Zq (by simp only [Zs]; exact z2)]
 rintro a2 ⟨hA2, hsb2, hg4, hg2⟩
 have hoC : off + o < C.size := by omega
 refine wpl_skip rfl (x_storeN (cs := #[mv]) (b := blk) (o := off + o) hsz (by rw [Ze, hg4]) (by rw [Ze, hg2]) (by simp [hone]) ?_) (wpList_nil ?_)
 ·intro j hj
  simp at hj
  subst hj
  rw [Zc h1, Zz h1, Array.getElem?_eq_getElem (by omega)]
  exact ⟨rfl, rfl⟩
 rw [Zo]
 obtain ⟨C', g1, g2, g3, g4⟩ := heap_setCells (w := w1) [mv] (off + o) C h1
 have hm2 : Mod (only blk) w1 (w1.setCells blk (off + o) [mv]) := mod_setCells _ _ _ _
 have g30 := g3 0 (by simp) (by omega)
 simp only [List.length_cons, List.length_nil, Nat.zero_add] at g4
 have hFb : ∀ k, F k -> ¬ only blk k := fun k hk e => (hS.apart k hk).2 e
 have hA3 := hA2.world hrd (hA2.err.mod hmod (Ne.symm hA2.glob))
 refine ⟨_, _, rfl, hA3.world (hA3.rd.mod hm2 (fun e => hS.rb e.symm) (fun e => (hS.apart _ hS.src).2 e)) (hA3.err.mod hm2 (fun e => hS.glob e.symm)), ?_, hsb2.mono fun t ht => ?_, ?_⟩
 ·refine ⟨C', t, g1, by omega, (RepL.avoid σ.lay (from' C off) _ _ hav.1 (fun j hj => ?_) h3).mod hm2 hFb (fun _ h => h), ?_⟩
  ·simp only [from', Array.getD_eq_getD_getElem?]
   rw [g4 (off + j) (by omega)]
  ·rw [htg]
   show TagsR _ F (from' C' off o) _
   rw [get_from' (v := mv) (by simpa using g30)]
   exact TagsR.mod hT1 hm2 hFb (fun _ h => h)
 ·rcases ht with rfl | rfl | rfl | rfl <;> simp [W, writes]
 ·refine (Stp.of_rd hmod hS.rb).trans ⟨hm2.mono fun _ _ e => .inr e, fun D td hD => ?_⟩
  rw [h1] at hD
  obtain ⟨rfl, rfl⟩ : C = D /\ t = td := by simpa using hD
  exact ⟨C', g1, g2, fun j hj => g4 j (by omega)⟩
/-- a list as a field: what stands ahead of its length -/
theorem list_head (hat : σ.lay.at i = some (o, .list ety sz)) (hok : σ.okAt i o (.list ety sz) = true) (hf : fieldOff P T k = some o) (h1 : one P LT = true)
  (hs : (Γ.free t1 && Γ.free t2 && Γ.free t3 && Γ.free t4 && Γ.free t5 && Γ.free sv && Γ.free sa && Γ.free sl && t1 != σ.s && t2 != σ.s && t3 != σ.s && t4 != σ.s && t5 != σ.s && sv != σ.s && sa != σ.s && sl != σ.s && sl != sa) = true)
  {x : Cx} {F : Nat -> Prop} {blk off : Nat} {v : SV} {s : RS} {a : Act} {w : World} (hA : Amb Γ x s a w) (hp : Act.get a σ.s = .pointer (some ⟨blk, off, none⟩)) (hC : Cur σ F blk off v w) (hnul : isNul v.1[i]? = true) {Q : Exit -> Act -> World -> Prop} {rest : Code}
  (hk : ∀ a', Amb Γ x s a' w -> Act.get a' σ.s = .pointer (some ⟨blk, off, none⟩) -> Act.get a' sa = .slice none 0 0 -> SameBut (fun t => t = t1 \/ t = t2 \/ t = t3 \/ t = t4 \/ t = sv \/ t = t5 \/ t = sa \/ t = sl) a a' -> rest.wp P Q a' w) :
  (Code.seq (.region id1 #[⟨some t1, .move (.tmp σ.s), y1, p1, e1, none⟩, ⟨some t2, .nilCheck (.tmp t1), y2, p2, e2, none⟩, ⟨some t3, .fieldAddr T (.tmp t2) k, y3, p3, e3, none⟩, ⟨some t4, .load LT (.tmp t3), y4, p4, e4, none⟩, ⟨some sv, .assign (.tmp t4), y5, p5, e5, none⟩] false)
   (.seq (.region id2 #[⟨some t5, .move (.tmp sv), y6, p6, e6, none⟩, ⟨some sa, .assign (.tmp t5), y7, p7, e7, none⟩] false) (.seq (.region id3 #[⟨some sl, .assign (.const (.int .i32 0)), y8, p8, e8, none⟩] false) rest))).wp P Q a w := by
 simp only [Bool.and_eq_true, bne_iff_ne] at hs
 obtain ⟨⟨⟨⟨⟨⟨⟨⟨⟨⟨⟨⟨⟨⟨⟨⟨f1, f2⟩, f3⟩, f4⟩, f5⟩, fv⟩, fa⟩, fl⟩, m1⟩, m2⟩, m3⟩, m4⟩, m5⟩, mv⟩, ma⟩, ml⟩, nla⟩ := hs
 obtain ⟨C, t, c1, c2, c3, c4⟩ := hC.mem
 obtain ⟨u, hu, hrep⟩ := RepL.get _ _ _ _ _ _ hat c3
 rw [isNul_spec hnul] at hu
 obtain rfl : Tr.nul = u := by simpa using hu
 simp only [Rep] at hrep
 have hcell0 : from' C off (o + 0) = .slice none 0 0 := by
  rcases hrep with ⟨h, _⟩ | ⟨l, f, _, _, _, h⟩
  ·exact h
  ·simp [Tr.nul, Tr.list] at h
 simp only [St.okAt, Bool.and_eq_true] at hok
 have hin := Lay.at_in _ _ _ _ _ _ hok.1.1 hat
 simp only [Ty.size] at hin
 have hcell : w.cell? ⟨blk, off + o, none⟩ = some (.slice none 0 0) := by
  rw [Zc c1, Array.getElem?_eq_getElem (by omega)]
  simp only [from', Nat.add_zero, Array.getD_eq_getD_getElem?] at hcell0
  rw [Array.getElem?_eq_getElem (by omega)] at hcell0
  simpa using hcell0
 have z1 := hA.lt f1
 have z2 := hA.lt f2
 have z3 := hA.lt f3
 have z4 := hA.lt f4
 have z5 := hA.lt f5
 have zv := hA.lt fv
 have za := hA.lt fa
 refine wp_seq (wp_region_lit (Zv rfl Zm (Zv rfl (x_nilCheck (q := ⟨blk, off, none⟩) ?_) (Zv rfl (Za hf (b := blk) (o0 := off) ?_) (Zv rfl (Zl h1 (b := blk) (o := off + o) ?_ hcell) (Zv rfl Zi (wpList_nil ?_)))))))
 ·rw [Ze, Zq z1, Ze, hp]
 ·rw [Ze, Zq (by simp only [Zs]; exact z2)]
 ·rw [Ze, Zq (by simp only [Zs]; exact z3)]
 refine wp_act (fun a' => Amb Γ x s a' w /\ Act.get a' σ.s = .pointer (some ⟨blk, off, none⟩) /\ Act.get a' sv = .slice none 0 0 /\ SameBut (fun t => t = t1 \/ t = t2 \/ t = t3 \/ t = t4 \/ t = sv) a a') ⟨((((hA.put f1 _).put f2 _).put f3 _).put f4 _).put fv _, ?_, ?_, ?_⟩ ?_
 ·rw [Zn mv, Zn m4, Zn m3, Zn m2, Zn m1, hp]
 ·rw [Zq (by simp only [Zs]; exact zv), Ze, Zq (by simp only [Zs]; exact z4)]
 ·exact (((((SameBut.refl a).put (.inl rfl) _).put (.inr (.inl rfl)) _).put (.inr (.inr (.inl rfl))) _).put (.inr (.inr (.inr (.inl rfl)))) _).put (.inr (.inr (.inr (.inr rfl)))) _
 rintro a1 ⟨hA1, hp1, hv1, hsb1⟩
 have q1 : a1.tmps.size = a.tmps.size := hsb1.size
 refine wp_seq (wp_region_lit (Zv rfl Zm (Zv rfl Zi (wpList_nil ?_))))
 refine wp_seq (wp_region_lit (Zv rfl Zi (wpList_nil ?_)))
 refine hk _ (((hA1.put f5 _).put fa _).put fl _) ?_ ?_ ?_
 ·rw [Zn ml, Zn ma, Zn m5, hp1]
 ·rw [Zn nla, Zq (by rw [Zs, q1]; exact za), Ze, Zq (by rw [q1]; exact z5), Ze, hv1]
 ·refine (hsb1.mono fun t ht => ?_).trans ((((SameBut.refl a1).put ?_ _).put ?_ _).put ?_ _)
  ·rcases ht with rfl | rfl | rfl | rfl | rfl <;> simp
  all_goals simp
end
end Go.Proofs.YtcldbjehliladaaDoor
