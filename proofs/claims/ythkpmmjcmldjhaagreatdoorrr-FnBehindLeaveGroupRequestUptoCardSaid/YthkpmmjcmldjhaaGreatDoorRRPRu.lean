/-
  Rules for the code that reads a message's parts: lists as fields; parts within; 16 octets. No program in it.
  Sixteen octets: how they are read.
  Rules for the code that reads a message: a test of the version between two bounds. No program in it.
  Rules for the code that reads a message: a part that may be none; a text that is put into a new variable. No program in it.
  What a struct is at first; 'Default'. No program in it.
-/
import Derived.Test.YthkpmmjcmldjhaaGreatDoorRRPRp
set_option linter.unusedSimpArgs false
set_option linter.unusedVariables false
namespace Go.Proofs.YthkpmmjcmldjhaaGreatDoorRR
open Go Go.RowKit
section
variable {P : Program} {Γ : Sl} {σ σ' : St} {f g : FT} {id id' id1 id2 id3 id4 id5 : Nat} {ty ety : Ty} {rd rdl : Int -> Bool -> RS -> Tr × RS} {sa sl si sv sz b0 b1 : Nat} {z : Nat -> Value} {ef : EF} {nv : Int -> Int -> Bool}
 {y1 y2 y3 y4 y5 y6 y7 y8 y9 y10 y11 y12 y13 y14 y15 : TypeId} {p1 p2 p3 p4 p5 p6 p7 p8 p9 p10 p11 p12 p13 p14 p15 : String} {e1 e2 e3 e4 e5 e6 e7 e8 e9 e10 e11 e12 e13 e14 e15 : Array Edge} {ts ts1 ts2 : Array TypeId} {t1 t2 t3 t4 t5 t6 t7 t8 t9 t10 t11 t12 : Nat} {yg yh ym yn : TypeId}
 {c c2 co cc cg cL cl cn : Code} {i o k T LT tv tw yt : Nat}
theorem get_int {x : Cx} {a' : Act} {w w' : World} {t : Nat} {u : Tr} {kd : IntKind} (hV : ∀ F : Nat -> Prop, F x.sb -> (∀ k, w.heap.size <= k -> F k) -> RepV w' F (.int kd) (Act.get a' t) u) : ∃ n, Act.get a' t = .int kd n /\ fits kd n /\ u.N = n := by
 rcases hV (fun _ => True) trivial (fun _ _ => trivial) with ⟨_, _, h⟩ | ⟨h, _⟩
 ·simp only [Rep] at h
  obtain ⟨n, h1, h2, h3⟩ := h
  exact ⟨n, h1, h2, by rw [h3]; rfl⟩
 ·cases h
/-- a list as a field -/
theorem blk_list (hat : σ.lay.at i = some (o, .list ety sz)) (hok : σ.okAt i o (.list ety sz) = true) (hf : fieldOff P T k = some o) (h1 : one P LT = true) (hsz : sized P LT 1 = true)
  (hl : Get P Γ cl sl (.int .i32) rdl) (ho : OkC P Γ co) (hc : CutC P Γ cc sa) (hg : GrowC P Γ cg sa sl sz z) (hL : LoopC P Γ cL sa sl ety sz z ef)
  (hs : (Γ.free t1 && Γ.free t2 && Γ.free t3 && Γ.free t4 && Γ.free t5 && Γ.free sv && Γ.free sa && Γ.free sl && t1 != σ.s && t2 != σ.s && t3 != σ.s && t4 != σ.s && t5 != σ.s && sv != σ.s && sa != σ.s && sl != σ.s && sl != sa) = true)
  (hs2 : (Γ.free t6 && Γ.free t7 && Γ.free t8 && Γ.free t9 && Γ.free t10 && Γ.free sv && t7 != sv && t8 != t7 && t9 != t8 && t10 != t8 && t6 != σ.s && t7 != σ.s && t8 != σ.s && t9 != σ.s && t10 != σ.s && sv != σ.s &&
   !(writes co).contains σ.s && !(writes cc).contains σ.s && !(writes cg).contains σ.s && !(writes cL).contains σ.s && !(writes co).contains sa && !(writes co).contains sl && !(writes cc).contains sl && !(writes cg).contains sl && !(writes cL).contains sa) = true)
  (hs3 : (!(writes cl).contains σ.s && !(writes cl).contains sa) = true) :
  Blk P Γ σ (.seq (.region id1 #[⟨some t1, .move (.tmp σ.s), y1, p1, e1, none⟩, ⟨some t2, .nilCheck (.tmp t1), y2, p2, e2, none⟩, ⟨some t3, .fieldAddr T (.tmp t2) k, y3, p3, e3, none⟩, ⟨some t4, .load LT (.tmp t3), y4, p4, e4, none⟩, ⟨some sv, .assign (.tmp t4), y5, p5, e5, none⟩] false)
   (.seq (.region id2 #[⟨some t5, .move (.tmp sv), y6, p6, e6, none⟩, ⟨some sa, .assign (.tmp t5), y7, p7, e7, none⟩] false) (.seq (.region id3 #[⟨some sl, .assign (.const (.int .i32 0)), y8, p8, e8, none⟩] false)
   (.seq cl (.seq co (.seq cc (.seq cg (.seq cL (.seq (.region id4 #[⟨some t6, .move (.tmp sa), y9, p9, e9, none⟩, ⟨some sv, .assign (.tmp t6), y10, p10, e10, none⟩] false)
   (.region id5 #[⟨some t7, .move (.tmp σ.s), y11, p11, e11, none⟩, ⟨some t8, .move (.tmp sv), y12, p12, e12, none⟩, ⟨some t9, .nilCheck (.tmp t7), y13, p13, e13, none⟩, ⟨some t10, .fieldAddr T (.tmp t9) k, y14, p14, e14, none⟩, ⟨none, .store LT (.tmp t10) (.tmp t8), y15, p15, e15, none⟩] false))))))))))
   (listF i rdl (fun _ _ => false) ef) := by
 intro x F blk off v s a w hA hp hC hS hns
 simp only [Bool.and_eq_true, Bool.not_eq_true', List.contains_eq_mem, decide_eq_false_iff_not] at hs3
 by_cases hnul : isNul v.1[i]? = true
 ·have e0 : listF i rdl (fun _ _ => false) ef x.ver x.flex v s = tailR i false (rdl x.ver x.flex s).1.N (ef x.ver x.flex) v (rdl x.ver x.flex s).2 := by simp only [listF, hnul, if_true]
  rw [e0] at hns ⊢
  refine list_head hat hok hf h1 hs hA hp hC hnul (fun a1 hA1 hp1 hva1 hsb1 => ?_)
  refine wp_seq (wp_mono (hl x s a1 w hA1) ?_)
  rintro e a2 w2 ⟨rfl, hA2, hV, hsb2, hmod⟩
  obtain ⟨n, hn1, hn2, hn3⟩ := get_int hV
  have hfit : n <= 2147483647 := by simp [fits, IntKind.min, IntKind.max, IntKind.signed, IntKind.bits] at hn2; omega
  rw [hn3] at hns ⊢
  have hva2 : Act.get a2 sa = .slice none 0 0 := (hsb2.get _ hs3.2).trans hva1
  refine wp_mono (list_tail hat hok hf hsz ho hc hg hL hs2 hA2 ((hsb2.get _ hs3.1).trans hp1) (hC.later hmod hS.rb (fun k hk => (hS.apart k hk).1)) (hS.later hmod.size) hn1 hfit (.inl ⟨rfl, hva2⟩) hns) ?_
  intro e a3 w3 h
  cases e with
  | normal =>
   obtain ⟨v', s', q1, q2, q3, q4, q5⟩ := h
   refine ⟨v', s', q1, q2, q3, (hsb1.mono fun t ht => ?_).trans ((hsb2.mono fun t ht => ?_).trans (q4.mono fun t ht => ?_)), (Stp.of_rd hmod hS.rb).trans q5⟩
   ·rcases ht with rfl | rfl | rfl | rfl | rfl | rfl | rfl | rfl <;> simp [W, writes]
   ·have : t ∈ writes cl := ht
    simp [W, writes, this]
   ·rcases ht with ht | ht | ht | ht | ht | ht | ht | ht | ht | ht
    all_goals first | (subst ht; simp [W, writes]; done) | (have ht' : t ∈ writes _ := ht; simp [W, writes, ht'])
  | ret => exact ⟨h.1, h.2.1, h.2.2.1, (Stp.of_rd hmod hS.rb).trans h.2.2.2⟩
  | _ => exact h.elim
 ·exact (hns (by simp [listF, hnul])).elim
end
end Go.Proofs.YthkpmmjcmldjhaaGreatDoorRR
set_option linter.unusedSimpArgs false
set_option linter.unusedVariables false
set_option linter.unusedSimpArgs false
set_option linter.unusedVariables false
namespace Go.Proofs.YthkpmmjcmldjhaaGreatDoorRR
open Go Go.RowKit
section
variable {P : Program} {Γ : Sl} {id : Nat} {y1 y2 y3 y4 y5 y6 : TypeId} {p1 p2 p3 p4 p5 p6 : String} {e1 e2 e3 e4 e5 e6 : Array Edge} {t1 t2 t3 t4 t5 t6 : Nat} {yg yh yg' yh' : TypeId}
/-- 'version >= m && version <= k' -/
theorem tst_and {m k : Int} (hs : (Γ.free t1 && Γ.free t2 && Γ.free t3 && Γ.free t4 && Γ.free t5 && Γ.free t6 && t4 != t3 && t5 != t3) = true) :
  Tst P Γ (.region id #[⟨some t1, .move (.tmp Γ.ver), y1, p1, e1, none⟩, ⟨some t2, .binOp .geq yg (.tmp t1) (.const (.int .i16 m)) yh, y2, p2, e2, none⟩, ⟨some t3, .move (.tmp t2), y3, p3, e3, none⟩, ⟨some t4, .move (.tmp Γ.ver), y4, p4, e4, some (2, true)⟩,
   ⟨some t5, .binOp .leq yg' (.tmp t4) (.const (.int .i16 k)) yh', y5, p5, e5, some (2, true)⟩, ⟨some t6, .pick (.tmp t3) (.tmp t5) (.const (.bool false)), y6, p6, e6, none⟩] false) t6 (fun v _ => decide (m <= v) && decide (v <= k)) := by
 intro x s a w hA
 simp only [Bool.and_eq_true, bne_iff_ne] at hs
 obtain ⟨⟨⟨⟨⟨⟨⟨f1, f2⟩, f3⟩, f4⟩, f5⟩, f6⟩, n43⟩, n53⟩ := hs
 have z1 := hA.lt f1
 have z2 := hA.lt f2
 have z3 := hA.lt f3
 have z4 := hA.lt f4
 have z5 := hA.lt f5
 have z6 := hA.lt f6
 refine wp_mono (Q := fun e a' w' => e = .normal /\ w' = w /\ Amb Γ x s a' w' /\ Act.get a' t6 = .bool (decide (m <= x.ver) && decide (x.ver <= k)) /\ SameBut (fun t => t = t1 \/ t = t2 \/ t = t3 \/ t = t4 \/ t = t5 \/ t = t6) a a') ?_ ?_
 ·refine wp_region_lit (Zv rfl Zm (Zv rfl (x_geq (k := .i16) (m := x.ver) (n := m) (by rw [Ze, Zq z1, Ze, hA.ver]) rfl) (Zv rfl Zm ?_)))
  refine wpl_abs (fun a' => Amb Γ x s a' w /\ Act.get a' t3 = .bool (decide (m <= x.ver)) /\ SameBut (fun t => t = t1 \/ t = t2 \/ t = t3 \/ t = t4 \/ t = t5 \/ t = t6) a a') ⟨((hA.put f1 _).put f2 _).put f3 _, ?_, (((SameBut.refl a).put (.inl rfl) _).put (.inr (.inl rfl)) _).put (.inr (.inr (.inl rfl))) _⟩ ?_
  ·rw [Zq (by simp only [Zs]; exact z3), Ze, Zq (by simp only [Zs]; exact z2)]
  rintro a1 ⟨hA1, h3, hsb1⟩
  have q1 : a1.tmps.size = a.tmps.size := hsb1.size
  by_cases hv : m <= x.ver
  ·rw [decide_eq_true hv] at h3
   refine wpl_gval (k := 2) (d := t3) (b := true) rfl rfl h3 Zm ?_
   have h3' : Act.get (a1.put (some t4) (a1.eval (.tmp Γ.ver))) t3 = .bool true := by rw [Zn n43, h3]
   refine wpl_gval (k := 2) (d := t3) (b := true) rfl rfl h3' (x_leq (k := .i16) (m := x.ver) (n := k) (by rw [Ze, Zq (by rw [q1]; exact z4), Ze, hA1.ver]) rfl) ?_
   refine Zv rfl (x_pickT (v := .bool (decide (x.ver <= k))) (by rw [Ze, Zn n53]; exact h3') (by rw [Ze, Zq (by simp only [Zs]; rw [q1]; exact z5)])) (wpList_nil ⟨rfl, rfl, ((hA1.put f4 _).put f5 _).put f6 _, ?_, ((hsb1.put (.inr (.inr (.inr (.inl rfl)))) _).put (.inr (.inr (.inr (.inr (.inl rfl))))) _).put (.inr (.inr (.inr (.inr (.inr rfl))))) _⟩)
   rw [Zq (by simp only [Zs]; rw [q1]; exact z6), decide_eq_true hv]; rfl
  ·rw [decide_eq_false hv] at h3
   refine wpl_unwanted ((wanted_of (k := 2) (d := t3) rfl rfl h3).trans rfl) ?_
   have h3' : Act.get (a1.put (some t4) undef) t3 = .bool false := by rw [Zn n43, h3]
   refine wpl_unwanted ((wanted_of (k := 2) (d := t3) rfl rfl h3').trans rfl) ?_
   refine Zv rfl (x_pickF (v := .bool false) (by rw [Ze, Zn n53]; exact h3') rfl) (wpList_nil ⟨rfl, rfl, ((hA1.put f4 _).put f5 _).put f6 _, ?_, ((hsb1.put (.inr (.inr (.inr (.inl rfl)))) _).put (.inr (.inr (.inr (.inr (.inl rfl))))) _).put (.inr (.inr (.inr (.inr (.inr rfl))))) _⟩)
   rw [Zq (by simp only [Zs]; rw [q1]; exact z6), decide_eq_false hv]; rfl
 ·rintro e a' w' ⟨rfl, rfl, h1, h2, h3⟩
  refine ⟨rfl, rfl, h1, h2, h3.mono fun t ht => ?_⟩
  rcases ht with rfl | rfl | rfl | rfl | rfl | rfl <;> simp [W, writes]
end
end Go.Proofs.YthkpmmjcmldjhaaGreatDoorRR
set_option linter.unusedSimpArgs false
set_option linter.unusedVariables false
namespace Go.Proofs.YthkpmmjcmldjhaaGreatDoorRR
open Go Go.RowKit
section
variable {P : Program} {Γ : Sl} {σ σ' : St} {f g : FT} {id id' id1 id2 id3 id4 id5 : Nat} {rp : Int -> Bool -> RS -> Tr × RS}
 {y1 y2 y3 y4 y5 y6 y7 y8 y9 y10 y11 y12 y13 y14 : TypeId} {p1 p2 p3 p4 p5 p6 p7 p8 p9 p10 p11 p12 p13 p14 : String} {e1 e2 e3 e4 e5 e6 e7 e8 e9 e10 e11 e12 e13 e14 : Array Edge} {ts ts1 : Array TypeId} {t0 t1 t2 t3 t4 t5 t6 t7 t8 t9 t10 t11 : Nat} {yg yh : TypeId}
 {cl ct rest : Code} {i o k T : Nat} {pv sp fd ET PT : Nat}
/-- a text's box is written: the reader stays -/
theorem Rd.box {w : World} {rb sb kb T : Nat} {s : RS} {q q' : ByteArray} (h : Rd w rb sb s) (hk : w.heap[kb]? = some (.cells #[.string q] T (0, 0))) (hne : rb ≠ kb) : Rd (w.setCell ⟨kb, 0, none⟩ (.string q')) rb sb s := by
 have hm : Mod (only kb) w (w.setCell ⟨kb, 0, none⟩ (.string q')) := (Mod.refl w).put _ _
 obtain ⟨hl, hn, src, t, hb, hs⟩ := h
 refine ⟨hm.lt hl, hn, src, t, hm.some hb hne, ?_⟩
 by_cases he : sb = kb
 ·subst he
  rcases hs with hs | ⟨n1, off, cap, c, t', fr, n2, n3, n4, n5, n6⟩
  ·exact .inl hs
  ·rw [hk] at n5
   obtain ⟨rfl, rfl, rfl⟩ : #[Value.string q] = c /\ T = t' /\ (0, 0) = fr := by simpa using n5
   have h0 : s.bs.length = 0 := by
    apply Classical.byContradiction
    intro hne0
    have := n6 0 (by omega)
    rw [Nat.add_zero] at this
    cases off with
    | zero => simp at this
    | succ n => simp at this
   exact .inr ⟨n1, off, cap, _, T, (0, 0), n2, n3, n4, heap_setCell_same hk _, fun i hi => by omega⟩
 ·exact hs.mod hm he
end
end Go.Proofs.YthkpmmjcmldjhaaGreatDoorRR
set_option linter.unusedSimpArgs false
set_option linter.unusedVariables false
namespace Go.Proofs.YthkpmmjcmldjhaaGreatDoorRR
open Go Go.RowKit
def zeros (c : Nat -> Value) : Nat -> Prop
 | 0 => True
 | n + 1 => c n = .int .u8 0 /\ zeros c n
theorem zeros_at {c : Nat -> Value} : ∀ {n j : Nat}, zeros c n -> j < n -> c j = .int .u8 0
 | n + 1, j, h, hj => by
  by_cases e : j = n
  ·rw [e]; exact h.1
  ·exact zeros_at h.2 (by omega)
mutual
/-- nothing has been put in -/
def Ty.zero : Ty -> Tr
 | .int _ => .num 0
 | .bool => .ofBool false
 | .float => .num (wrap64 0)
 | .str => .oct []
 | .pstr => .ofOpt none
 | .bytes => .octs [] true
 | .uuid => .oct (List.replicate 16 0)
 | .list _ _ => .nul
 | .struct lay _ _ => .part lay.zeroL []
 | .pstruct _ _ _ => .nul
def Lay.zeroL : Lay -> List Tr
 | .nil => []
 | .cons _ t r => t.zero :: r.zeroL
end
mutual
def Ty.isZero : Ty -> (Nat -> Value) -> Prop
 | .int k, c => c 0 = .int k 0
 | .bool, c => c 0 = .bool false
 | .float, c => c 0 = .float .f64 0
 | .str, c => c 0 = .string (str [])
 | .pstr, c => c 0 = .pointer none
 | .bytes, c => c 0 = .slice none 0 0
 | .uuid, c => zeros c 16
 | .list _ _, c => c 0 = .slice none 0 0
 | .struct lay tg _, c => lay.isZero c /\ match tg with | some o => c o = .map none | none => True
 | .pstruct _ _ _, c => c 0 = .pointer none
def Lay.isZero : Lay -> (Nat -> Value) -> Prop
 | .nil, _ => True
 | .cons o t r, c => t.isZero (fun j => c (o + j)) /\ r.isZero c
end
mutual
theorem Ty.zero_rep {w : World} {F : Nat -> Prop} : ∀ (t : Ty) (c : Nat -> Value), t.isZero c -> Rep w F t c t.zero
 | .int k, c, h => by simp only [Ty.isZero] at h; simp only [Rep, Ty.zero]; exact ⟨0, h, fits_zero k, rfl⟩
 | .bool, c, h => by simp only [Ty.isZero] at h; simp only [Rep, Ty.zero]; exact ⟨false, h, rfl⟩
 | .float, c, h => by simp only [Ty.isZero] at h; simp only [Rep, Ty.zero]; exact ⟨0, h, by omega, rfl⟩
 | .str, c, h => by simp only [Ty.isZero] at h; simp only [Rep, Ty.zero]; exact ⟨[], h, by simp, rfl⟩
 | .pstr, c, h => by simp only [Ty.isZero] at h; simp only [Rep, Ty.zero]; exact ⟨none, h, fun _ e => (by cases e), rfl⟩
 | .bytes, c, h => by simp only [Ty.isZero] at h; simp only [Rep, Ty.zero]; exact ⟨[], true, by rw [h]; exact .inl ⟨0, .inl rfl, .inl ⟨rfl, rfl, rfl⟩⟩, by simp, rfl⟩
 | .uuid, c, h => by
  simp only [Ty.isZero] at h; simp only [Rep, Ty.zero]
  refine ⟨List.replicate 16 0, by simp, fun i hi => ?_, rfl⟩
  rw [zeros_at h (by simpa using hi), List.getElem_replicate]
  rfl
 | .list _ _, c, h => by simp only [Ty.isZero] at h; simp only [Rep, Ty.zero]; exact .inl ⟨h, trivial⟩
 | .struct lay tg _, c, h => by
  simp only [Ty.isZero] at h; simp only [Rep, Ty.zero]
  refine ⟨lay.zeroL, [], Lay.zero_rep lay c h.1, ?_, rfl⟩
  cases tg with
  | none => rfl
  | some o => exact .inl ⟨h.2, rfl⟩
 | .pstruct _ _ _, c, h => by simp only [Ty.isZero] at h; simp only [Rep, Ty.zero]; exact .inl ⟨h, trivial⟩
theorem Lay.zero_rep {w : World} {F : Nat -> Prop} : ∀ (lay : Lay) (c : Nat -> Value), lay.isZero c -> RepL w F lay c lay.zeroL
 | .nil, c, h => by simp only [RepL, Lay.zeroL]
 | .cons o t r, c, h => by
  simp only [Lay.isZero] at h
  simp only [RepL, Lay.zeroL]
  exact ⟨t.zero, r.zeroL, rfl, Ty.zero_rep t _ h.1, Lay.zero_rep r c h.2⟩
end
theorem zero_ok {lay : Lay} {tg : Option Nat} {z : Nat -> Value} (h : lay.isZero z) (ht : match tg with | some o => z o = .map none | none => True) : ∀ (w : World) (F : Nat -> Prop), RepL w F lay z (lay.zeroL, ([] : Tags)).1 /\ (match tg with | some o => TagsR w F (z o) (lay.zeroL, ([] : Tags)).2 | none => (lay.zeroL, ([] : Tags)).2 = []) := by
 intro w F
 refine ⟨Lay.zero_rep lay z h, ?_⟩
 cases tg with
 | none => rfl
 | some o => exact .inl ⟨ht, rfl⟩
/-- a piece of the code of 'Default' -/
def DBlk (P : Program) (σ : St) (N : Nat) (c : Code) (d : SV -> SV) : Prop :=
 ∀ F blk off v a w, a.tmps.size = N -> a.defers = [] -> Act.get a 0 = .pointer (some ⟨blk, off, none⟩) -> Cur σ F blk off v w -> (∀ k, F k -> k ≠ blk) -> c.wp P (fun e a' w' => e = .normal /\ a'.tmps.size = N /\ a'.defers = [] /\ Act.get a' 0 = .pointer (some ⟨blk, off, none⟩) /\ Mod (only blk) w w' /\ Cur σ F blk off (d v) w' /\
  ∀ C t, w.heap[blk]? = some (.cells C t (0, 0)) -> ∃ C', w'.heap[blk]? = some (.cells C' t (0, 0)) /\ C'.size = C.size /\ ∀ j, j < off \/ off + σ.sz <= j -> C'[j]? = C[j]?) a w
section
variable {P : Program} {σ : St} {N : Nat} {d d' : SV -> SV} {c c' : Code} {id i o k T yt : Nat} {ty : Ty} {t1 t2 t3 : Nat} {y1 y2 y3 y4 : TypeId} {p1 p2 p3 p4 : String} {e1 e2 e3 e4 : Array Edge} {val : Value} {u : Tr}
theorem dblk_skip : DBlk P σ N .skip (fun v => v) := fun F blk off v a w h1 h2 h3 h4 _ => wp_skip ⟨rfl, h1, h2, h3, .refl w, h4, fun C t hc => ⟨C, hc, rfl, fun _ _ => rfl⟩⟩
theorem dfc_rule {fd : FuncId} {fn : Func} (hf : P.funcs[fd]? = some fn) (hbody : fn.body = some c) (hN : fn.ntmps = N) (hres : fn.results = #[]) (hN1 : 1 <= N) (h : DBlk P σ N c d) : DfC P fd σ d := by
 intro F blk off v w hC hF
 refine calls_of_wp hf hbody ?_
 rw [hN]
 refine wp_mono (h F blk off v _ w ?_ rfl (by rw [Zj _ _ _ (by simp)]; rfl) hC hF) ?_
 ·simp; omega
 rintro e a' w' ⟨rfl, g1, g2, g3, g4, g5, g6⟩
 exact ⟨g2, .tuple #[], by simp [results, hres], ⟨_, rfl⟩, g4, g5, g6⟩
end
end Go.Proofs.YthkpmmjcmldjhaaGreatDoorRR
