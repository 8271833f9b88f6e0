/-
  Sixteen octets: how they are read.
  Rules for the code that reads a message: a test of the version between two bounds. No program in it.
  Rules for the code that reads a message: a part that may be none; a text that is put into a new variable. No program in it.
  What a struct is at first; 'Default'. No program in it.
-/
import Derived.Test.YtpecdnfmlodmaaaGreatDoorRPRq
set_option linter.unusedSimpArgs false
set_option linter.unusedVariables false
set_option linter.unusedSimpArgs false
set_option linter.unusedVariables false
namespace Go.Proofs.YtpecdnfmlodmaaaGreatDoorR
open Go Go.RowKit
section
variable {P : Program} {Γ : Sl} {id : Nat} {y1 y2 y3 y4 y5 y6 : TypeId} {p1 p2 p3 p4 p5 p6 : String} {e1 e2 e3 e4 e5 e6 : Array Edge} {t1 t2 t3 t4 t5 t6 : Nat} {yg yh yg' yh' : TypeId}
/-- 'version >= m && version <= k' -/
theorem tst_and {m k : Int} (hs : (Γ.free t1 && Γ.free t2 && Γ.free t3 && Γ.free t4 && Γ.free t5 && Γ.free t6 && t4 != t3 && t5 != t3) = true) :
  Tst P Γ (.region id #[⟨some t1, .move (.tmp Γ.ver), y1, p1, e1, none⟩, ⟨some t2, .binOp .geq yg (.tmp t1) (.const (.int .i16 m)) yh, y2, p2, e2, none⟩, ⟨some t3, .move (.tmp t2), y3, p3, e3, none⟩, ⟨some t4, .move (.tmp Γ.ver), y4, p4, e4, some (2, true)⟩,
   ⟨some t5, .binOp .leq yg' (.tmp t4) (.const (.int .i16 k)) yh', y5, p5, e5, some (2, true)⟩, ⟨some t6, .pick (.tmp t3) (.tmp t5) (.const (.bool false)), y6, p6, e6, none⟩] false) t6 (fun v _ => decide (m <= v) && decide (v <= k)) := by
 intro x s a w hA
 simp only [Bool.and_eq_true, bne_iff_ne] at hs
 obtain ⟨⟨⟨⟨⟨⟨⟨f1, f2⟩, f3⟩, f4⟩, f5⟩, f6⟩, n43⟩, n53⟩ := hs
 have z1 := hA.lt f1
 have z2 := hA.lt f2
 have z3 := hA.lt f3
 have z4 := hA.lt f4
 have z5 := hA.lt f5
 have z6 := hA.lt f6
 refine wp_mono (Q := fun e a' w' => e = .normal /\ w' = w /\ Amb Γ x s a' w' /\ Act.get a' t6 = .bool (decide (m <= x.ver) && decide (x.ver <= k)) /\ SameBut (fun t => t = t1 \/ t = t2 \/ t = t3 \/ t = t4 \/ t = t5 \/ t = t6) a a') ?_ ?_
 ·refine wp_region_lit (Zv rfl Zm (Zv rfl (x_geq (k := .i16) (m := x.ver) (n := m) (by rw [Ze, Zq z1, Ze, hA.ver]) rfl) (Zv rfl Zm ?_)))
  refine wpl_abs (fun a' => Amb Γ x s a' w /\ Act.get a' t3 = .bool (decide (m <= x.ver)) /\ SameBut (fun t => t = t1 \/ t = t2 \/ t = t3 \/ t = t4 \/ t = t5 \/ t = t6) a a') ⟨((hA.put f1 _).put f2 _).put f3 _, ?_, (((SameBut.refl a).put (.inl rfl) _).put (.inr (.inl rfl)) _).put (.inr (.inr (.inl rfl))) _⟩ ?_
  ·rw [Zq (by simp only [Zs]; exact z3), Ze, Zq (by simp only [Zs]; exact z2)]
  rintro a1 ⟨hA1, h3, hsb1⟩
  have q1 : a1.tmps.size = a.tmps.size := hsb1.size
  by_cases hv : m <= x.ver
  ·rw [decide_eq_true hv] at h3
   refine wpl_gval (k := 2) (d := t3) (b := true) rfl rfl h3 Zm ?_
   have h3' : Act.get (a1.put (some t4) (a1.eval (.tmp Γ.ver))) t3 = .bool true := by rw [Zn n43, h3]
   refine wpl_gval (k := 2) (d := t3) (b := true) rfl rfl h3' (x_leq (k := .i16) (m := x.ver) (n := k) (by rw [Ze, Zq (by rw [q1]; exact z4), Ze, hA1.ver]) rfl) ?_
   refine Zv rfl (x_pickT (v := .bool (decide (x.ver <= k))) (by rw [Ze, Zn n53]; exact h3') (by rw [Ze, Zq (by simp only [Zs]; rw [q1]; exact z5)])) (wpList_nil ⟨rfl, rfl, ((hA1.put f4 _).put f5 _).put f6 _, ?_, ((hsb1.put (.inr (.inr (.inr (.inl rfl)))) _).put (.inr (.inr (.inr (.inr (.inl rfl))))) _).put (.inr (.inr (.inr (.inr (.inr rfl))))) _⟩)
   rw [Zq (by simp only [Zs]; rw [q1]; exact z6), decide_eq_true hv]; rfl
  ·rw [decide_eq_false hv] at h3
   refine wpl_unwanted ((wanted_of (k := 2) (d := t3) rfl rfl h3).trans rfl) ?_
   have h3' : Act.get (a1.put (some t4) undef) t3 = .bool false := by rw [Zn n43, h3]
   refine wpl_unwanted ((wanted_of (k := 2) (d := t3) rfl rfl h3').trans rfl) ?_
   refine Zv rfl (x_pickF (v := .bool false) (by rw [Ze, Zn n53]; exact h3') rfl) (wpList_nil ⟨rfl, rfl, ((hA1.put f4 _).put f5 _).put f6 _, ?_, ((hsb1.put (.inr (.inr (.inr (.inl rfl)))) _).put (.inr (.inr (.inr (.inr (.inl rfl))))) _).put (.inr (.inr (.inr (.inr (.inr rfl))))) _⟩)
   rw [Zq (by simp only [Zs]; rw [q1]; exact z6), decide_eq_false hv]; rfl
 ·rintro e a' w' ⟨rfl, rfl, h1, h2, h3⟩
  refine ⟨rfl, rfl, h1, h2, h3.mono fun t ht => ?_⟩
  rcases ht with rfl | rfl | rfl | rfl | rfl | rfl <;> simp [W, writes]
end
end Go.Proofs.YtpecdnfmlodmaaaGreatDoorR
set_option linter.unusedSimpArgs false
set_option linter.unusedVariables false
namespace Go.Proofs.YtpecdnfmlodmaaaGreatDoorR
open Go Go.RowKit
section
variable {P : Program} {Γ : Sl} {σ σ' : St} {f g : FT} {id id' id1 id2 id3 id4 id5 : Nat} {rp : Int -> Bool -> RS -> Tr × RS}
 {y1 y2 y3 y4 y5 y6 y7 y8 y9 y10 y11 y12 y13 y14 : TypeId} {p1 p2 p3 p4 p5 p6 p7 p8 p9 p10 p11 p12 p13 p14 : String} {e1 e2 e3 e4 e5 e6 e7 e8 e9 e10 e11 e12 e13 e14 : Array Edge} {ts ts1 : Array TypeId} {t0 t1 t2 t3 t4 t5 t6 t7 t8 t9 t10 t11 : Nat} {yg yh : TypeId}
 {cl ct rest : Code} {i o k T : Nat} {pv sp fd ET PT : Nat}
/-- a text's box is written: the reader stays -/
theorem Rd.box {w : World} {rb sb kb T : Nat} {s : RS} {q q' : ByteArray} (h : Rd w rb sb s) (hk : w.heap[kb]? = some (.cells #[.string q] T (0, 0))) (hne : rb ≠ kb) : Rd (w.setCell ⟨kb, 0, none⟩ (.string q')) rb sb s := by
 have hm : Mod (only kb) w (w.setCell ⟨kb, 0, none⟩ (.string q')) := (Mod.refl w).put _ _
 obtain ⟨hl, hn, src, t, hb, hs⟩ := h
 refine ⟨hm.lt hl, hn, src, t, hm.some hb hne, ?_⟩
 by_cases he : sb = kb
 ·subst he
  rcases hs with hs | ⟨n1, off, cap, c, t', fr, n2, n3, n4, n5, n6⟩
  ·exact .inl hs
  ·rw [hk] at n5
   obtain ⟨rfl, rfl, rfl⟩ : #[Value.string q] = c /\ T = t' /\ (0, 0) = fr := by simpa using n5
   have h0 : s.bs.length = 0 := by
    apply Classical.byContradiction
    intro hne0
    have := n6 0 (by omega)
    rw [Nat.add_zero] at this
    cases off with
    | zero => simp at this
    | succ n => simp at this
   exact .inr ⟨n1, off, cap, _, T, (0, 0), n2, n3, n4, heap_setCell_same hk _, fun i hi => by omega⟩
 ·exact hs.mod hm he
/-- code that reads a text into a box -/
def GetB (P : Program) (Γ : Sl) (c : Code) (tb : Nat) (rd : Int -> Bool -> RS -> Tr × RS) : Prop :=
 ∀ x s a w kb T q, Amb Γ x s a w -> Act.get a tb = .pointer (some ⟨kb, 0, none⟩) -> w.heap[kb]? = some (.cells #[.string q] T (0, 0)) -> kb ≠ x.rb -> kb ≠ gErr ->
  c.wp P (fun e a' w' => e = .normal /\ Amb Γ x (rd x.ver x.flex s).2 a' w' /\ (∃ bs, (rd x.ver x.flex s).1 = .oct bs /\ bs.length <= 4294967295 /\ w'.heap[kb]? = some (.cells #[.string (str bs)] T (0, 0))) /\ SameBut (W c) a a' /\ Mod (fun k => k = x.rb \/ k = kb) w w') a w
section
variable {rd rd' : Int -> Bool -> RS -> Tr × RS} {ST tb tc tv t : Nat} {c c1 c2 : Code}
theorem getb_call {fr : Nat} {rd : RS -> Tr × RS} (hc : RdC P fr .str rd) (hb : bodied P fr = true) (hsz : sized P ST 1 = true) (hs : (Γ.free tc && tc != tb) = true) :
  GetB P Γ (.region id #[⟨some tc, .call ⟨.value (.func fr), #[.tmp Γ.b], ts⟩, y1, p1, e1, none⟩, ⟨none, .store ST (.tmp tb) (.tmp tc), y2, p2, e2, none⟩] false) tb (fun _ _ => rd) := by
 intro x s a w kb T q hA ht hk hkr hkg
 simp only [Bool.and_eq_true, bne_iff_ne] at hs
 have z1 := hA.lt hs.1
 have e0 : (#[Operand.tmp Γ.b] : Array Operand).map a.eval = #[.pointer (some ⟨x.rb, 0, none⟩)] := by simp [Ze, hA.b]
 refine wp_region_lit (wpl_call rfl (Zy hb rfl) (by rw [e0]; exact hc w x.rb x.sb s hA.rd) ?_)
 rintro e w1 ⟨⟨v, rfl, hV⟩, hrd, hm⟩
 obtain ⟨bs, rfl, hbl, he⟩ : ∃ bs, v = .string (str bs) /\ bs.length <= 4294967295 /\ (rd s).1 = .oct bs := by
  rcases hV (fun _ => True) trivial (fun _ _ => trivial) with ⟨_, _, h⟩ | ⟨h, _⟩
  ·simp only [Rep] at h; exact h
  ·cases h
 refine ⟨_, rfl, ?_⟩
 have hk1 := hm.some hk hkr
 refine wpl_skip rfl (x_store1 hsz (b := kb) (o := 0) (v := .string (str bs)) (u := .string q) (by rw [Ze, Zn hs.2, ht]) (by rw [Ze, Zq z1]) rfl (by rw [Zc hk1]; rfl) (Zz hk1)) (wpList_nil ?_)
 have hm2 : Mod (only kb) w1 (w1.setCell ⟨kb, 0, none⟩ (.string (str bs))) := (Mod.refl w1).put _ _
 refine ⟨rfl, ?_, ⟨bs, he, hbl, ?_⟩, (SameBut.refl a).put (by simp [W, writes]) _, (hm.mono fun _ _ e => Or.inl e).trans (hm2.mono fun _ _ e => .inr e)⟩
 ·have h := hA.put hs.1 (.string (str bs))
  rw [Zo]
  exact h.world (hrd.box hk1 (Ne.symm hkr)) ((h.err.mod hm (Ne.symm hA.glob)).mod hm2 (Ne.symm hkg))
 ·exact heap_setCell_same hk1 _
theorem getb_cond {p : Int -> Bool -> Bool} {c0 : Code} (h0 : Tst P Γ c0 t p) (h1 : GetB P Γ c1 tb rd) (h2 : GetB P Γ c2 tb rd') (hs : (writes c0).contains tb = false) :
  GetB P Γ (.seq c0 (.cond (.tmp t) c1 c2)) tb (fun ver fl s => if p ver fl then rd ver fl s else rd' ver fl s) := by
 intro x s a w kb T q hA ht hk hkr hkg
 have hs' : ¬ tb ∈ writes c0 := by simpa using hs
 refine wp_seq (wp_mono (h0 x s a w hA) ?_)
 rintro e a1 w1 ⟨rfl, rfl, hA1, hb, hsb⟩
 have ht1 := (hsb.get _ hs').trans ht
 cases hpv : p x.ver x.flex with
 | true =>
  refine wp_cond_true (by rw [Ze, hb, hpv]) (wp_mono (h1 x s a1 w1 kb T q hA1 ht1 hk hkr hkg) ?_)
  rintro e a2 w2 ⟨rfl, g1, g2, g3, g4⟩
  simp only [hpv, if_true]
  exact ⟨trivial, g1, g2, (hsb.mono fun t ht => by simp only [W, writes, List.mem_append] at *; exact .inl ht).trans (g3.mono fun t ht => by simp only [W, writes, List.mem_append] at *; exact .inr (.inl ht)), g4⟩
 | false =>
  refine wp_cond_false (by rw [Ze, hb, hpv]) (wp_mono (h2 x s a1 w1 kb T q hA1 ht1 hk hkr hkg) ?_)
  rintro e a2 w2 ⟨rfl, g1, g2, g3, g4⟩
  simp only [hpv, Bool.false_eq_true, if_false]
  exact ⟨trivial, g1, g2, (hsb.mono fun t ht => by simp only [W, writes, List.mem_append] at *; exact .inl ht).trans (g3.mono fun t ht => by simp only [W, writes, List.mem_append] at *; exact .inr (.inr ht)), g4⟩
theorem getb_uns (h1 : GetB P Γ c1 tb rd) (h2 : GetB P Γ c2 tb rd) (hs : (Γ.free t && t != tb) = true) :
  GetB P Γ (.seq (.region id #[⟨some t, .move (.tmp Γ.uns), y1, p1, e1, none⟩] false) (.cond (.tmp t) c1 c2)) tb rd := by
 intro x s a w kb T q hA ht hk hkr hkg
 simp only [Bool.and_eq_true, bne_iff_ne] at hs
 refine wp_seq (wp_region_lit (Zv rfl Zm (wpList_nil ?_)))
 have hA' := hA.put hs.1 (a.eval (.tmp Γ.uns))
 have ht' : Act.get (a.put (some t) (a.eval (.tmp Γ.uns))) tb = .pointer (some ⟨kb, 0, none⟩) := by rw [Zn hs.2, ht]
 have hv : Act.eval (a.put (some t) (a.eval (.tmp Γ.uns))) (.tmp t) = .bool x.uns := by
  rw [Ze, Zq (hA.lt hs.1), Ze, hA.uns]
 have h0 : SameBut (W (.seq (.region id #[⟨some t, .move (.tmp Γ.uns), y1, p1, e1, none⟩] false) (.cond (.tmp t) c1 c2))) a (a.put (some t) (a.eval (.tmp Γ.uns))) := (SameBut.refl a).put (by simp [W, writes]) _
 cases hfl : x.uns with
 | true =>
  refine wp_cond_true (hv.trans (by rw [hfl])) (wp_mono (h1 x s _ w kb T q hA' ht' hk hkr hkg) ?_)
  rintro e a' w' ⟨rfl, g1, g2, g3, g4⟩
  exact ⟨rfl, g1, g2, h0.trans (g3.mono fun t ht => by simp only [W, writes, List.mem_append] at *; exact .inr (.inl ht)), g4⟩
 | false =>
  refine wp_cond_false (hv.trans (by rw [hfl])) (wp_mono (h2 x s _ w kb T q hA' ht' hk hkr hkg) ?_)
  rintro e a' w' ⟨rfl, g1, g2, g3, g4⟩
  exact ⟨rfl, g1, g2, h0.trans (g3.mono fun t ht => by simp only [W, writes, List.mem_append] at *; exact .inr (.inr ht)), g4⟩
/-- 'var vv string; vv = ..; v = &vv' -/
theorem get_box {q : ByteArray} (hc : GetB P Γ c tb rd) (hz : zeroOf P ST = some (.string q)) (hs : (Γ.free tb && Γ.free tv && !(writes c).contains tb) = true) :
  Get P Γ (.seq (.region id #[⟨some tb, .alloc ST, y1, p1, e1, none⟩] false) (.seq c (.region id2 #[⟨some tv, .assign (.tmp tb), y2, p2, e2, none⟩] false))) tv .pstr rd := by
 intro x s a w hA
 simp only [Bool.and_eq_true, Bool.not_eq_true', List.contains_eq_mem, decide_eq_false_iff_not] at hs
 obtain ⟨⟨f1, f2⟩, wc⟩ := hs
 have z1 := hA.lt f1
 have hgl : gErr < w.heap.size := World.block_lt_of_cell? _ _ hA.err
 have hrb : x.rb < w.heap.size := hA.rd.1
 refine wp_seq (wp_region_lit (Zv rfl (x_alloc hz) (wpList_nil ?_)))
 have k1 := Zh w (.cells (Value.string q).cells ST)
 have m1 : Mod none' w (w.alloc (.cells (Value.string q).cells ST)) := (Mod.refl w).alloc _
 have s1 : (w.alloc (.cells (Value.string q).cells ST)).heap.size = w.heap.size + 1 := by simp
 generalize w.alloc (.cells (Value.string q).cells ST) = w1 at *
 obtain ⟨kb, hkb⟩ : ∃ kb, kb = w.heap.size := ⟨_, rfl⟩
 rw [<- hkb] at k1 s1 ⊢
 have hA1 : Amb Γ x s (a.put (some tb) (.pointer (some ⟨kb, 0, none⟩))) w1 := (hA.put f1 _).world (hA.rd.mod m1 (fun f => f) (fun f => f)) (hA.err.mod m1 (fun f => f))
 refine wp_seq (wp_mono (hc x s _ w1 kb ST q hA1 (Zq z1) k1 (by omega) (by omega)) ?_)
 rintro e a2 w2 ⟨rfl, hA2, ⟨bs, he, hbl, hb⟩, hsb, hm⟩
 have hg2 : Act.get a2 tb = .pointer (some ⟨kb, 0, none⟩) := (hsb.get _ wc).trans (Zq z1)
 refine wp_region_lit (Zv rfl Zi (wpList_nil ⟨rfl, hA2.put f2 _, fun F _ hF2 => ?_, ?_, m1.trans' hm (fun _ _ f => f.elim) (fun i hi e => by rcases e with e | e; exact e; omega)⟩))
 ·rw [Zq (hA2.lt f2), Ze, hg2]
  refine .inl ⟨rfl, rfl, ?_⟩
  simp only [Rep]
  exact ⟨some bs, ⟨kb, ST, hF2 kb (by omega), rfl, hb⟩, fun _ e => by cases e; exact hbl, he⟩
 ·exact (((SameBut.refl a).put (by simp [W, writes]) _).trans (hsb.mono fun t ht => by simp only [W, writes, List.mem_append] at *; exact .inr (.inl ht))).put (by simp [W, writes]) _
end
end
end Go.Proofs.YtpecdnfmlodmaaaGreatDoorR
set_option linter.unusedSimpArgs false
set_option linter.unusedVariables false
namespace Go.Proofs.YtpecdnfmlodmaaaGreatDoorR
open Go Go.RowKit
def zeros (c : Nat -> Value) : Nat -> Prop
 | 0 => True
 | n + 1 => c n = .int .u8 0 /\ zeros c n
theorem zeros_at {c : Nat -> Value} : ∀ {n j : Nat}, zeros c n -> j < n -> c j = .int .u8 0
 | n + 1, j, h, hj => by
  by_cases e : j = n
  ·rw [e]; exact h.1
  ·exact zeros_at h.2 (by omega)
mutual
/-- nothing has been put in -/
def Ty.zero : Ty -> Tr
 | .int _ => .num 0
 | .bool => .ofBool false
 | .float => .num (wrap64 0)
 | .str => .oct []
 | .pstr => .ofOpt none
 | .bytes => .octs [] true
 | .uuid => .oct (List.replicate 16 0)
 | .list _ _ => .nul
 | .struct lay _ _ => .part lay.zeroL []
 | .pstruct _ _ _ => .nul
def Lay.zeroL : Lay -> List Tr
 | .nil => []
 | .cons _ t r => t.zero :: r.zeroL
end
mutual
def Ty.isZero : Ty -> (Nat -> Value) -> Prop
 | .int k, c => c 0 = .int k 0
 | .bool, c => c 0 = .bool false
 | .float, c => c 0 = .float .f64 0
 | .str, c => c 0 = .string (str [])
 | .pstr, c => c 0 = .pointer none
 | .bytes, c => c 0 = .slice none 0 0
 | .uuid, c => zeros c 16
 | .list _ _, c => c 0 = .slice none 0 0
 | .struct lay tg _, c => lay.isZero c /\ match tg with | some o => c o = .map none | none => True
 | .pstruct _ _ _, c => c 0 = .pointer none
def Lay.isZero : Lay -> (Nat -> Value) -> Prop
 | .nil, _ => True
 | .cons o t r, c => t.isZero (fun j => c (o + j)) /\ r.isZero c
end
mutual
theorem Ty.zero_rep {w : World} {F : Nat -> Prop} : ∀ (t : Ty) (c : Nat -> Value), t.isZero c -> Rep w F t c t.zero
 | .int k, c, h => by simp only [Ty.isZero] at h; simp only [Rep, Ty.zero]; exact ⟨0, h, fits_zero k, rfl⟩
 | .bool, c, h => by simp only [Ty.isZero] at h; simp only [Rep, Ty.zero]; exact ⟨false, h, rfl⟩
 | .float, c, h => by simp only [Ty.isZero] at h; simp only [Rep, Ty.zero]; exact ⟨0, h, by omega, rfl⟩
 | .str, c, h => by simp only [Ty.isZero] at h; simp only [Rep, Ty.zero]; exact ⟨[], h, by simp, rfl⟩
 | .pstr, c, h => by simp only [Ty.isZero] at h; simp only [Rep, Ty.zero]; exact ⟨none, h, fun _ e => (by cases e), rfl⟩
 | .bytes, c, h => by simp only [Ty.isZero] at h; simp only [Rep, Ty.zero]; exact ⟨[], true, by rw [h]; exact .inl ⟨0, .inl rfl, .inl ⟨rfl, rfl, rfl⟩⟩, by simp, rfl⟩
 | .uuid, c, h => by
  simp only [Ty.isZero] at h; simp only [Rep, Ty.zero]
  refine ⟨List.replicate 16 0, by simp, fun i hi => ?_, rfl⟩
  rw [zeros_at h (by simpa using hi), List.getElem_replicate]
  rfl
 | .list _ _, c, h => by simp only [Ty.isZero] at h; simp only [Rep, Ty.zero]; exact .inl ⟨h, trivial⟩
 | .struct lay tg _, c, h => by
  simp only [Ty.isZero] at h; simp only [Rep, Ty.zero]
  refine ⟨lay.zeroL, [], Lay.zero_rep lay c h.1, ?_, rfl⟩
  cases tg with
  | none => rfl
  | some o => exact .inl ⟨h.2, rfl⟩
 | .pstruct _ _ _, c, h => by simp only [Ty.isZero] at h; simp only [Rep, Ty.zero]; exact .inl ⟨h, trivial⟩
theorem Lay.zero_rep {w : World} {F : Nat -> Prop} : ∀ (lay : Lay) (c : Nat -> Value), lay.isZero c -> RepL w F lay c lay.zeroL
 | .nil, c, h => by simp only [RepL, Lay.zeroL]
 | .cons o t r, c, h => by
  simp only [Lay.isZero] at h
  simp only [RepL, Lay.zeroL]
  exact ⟨t.zero, r.zeroL, rfl, Ty.zero_rep t _ h.1, Lay.zero_rep r c h.2⟩
end
theorem zero_ok {lay : Lay} {tg : Option Nat} {z : Nat -> Value} (h : lay.isZero z) (ht : match tg with | some o => z o = .map none | none => True) : ∀ (w : World) (F : Nat -> Prop), RepL w F lay z (lay.zeroL, ([] : Tags)).1 /\ (match tg with | some o => TagsR w F (z o) (lay.zeroL, ([] : Tags)).2 | none => (lay.zeroL, ([] : Tags)).2 = []) := by
 intro w F
 refine ⟨Lay.zero_rep lay z h, ?_⟩
 cases tg with
 | none => rfl
 | some o => exact .inl ⟨ht, rfl⟩
/-- a piece of the code of 'Default' -/
def DBlk (P : Program) (σ : St) (N : Nat) (c : Code) (d : SV -> SV) : Prop :=
 ∀ F blk off v a w, a.tmps.size = N -> a.defers = [] -> Act.get a 0 = .pointer (some ⟨blk, off, none⟩) -> Cur σ F blk off v w -> (∀ k, F k -> k ≠ blk) -> c.wp P (fun e a' w' => e = .normal /\ a'.tmps.size = N /\ a'.defers = [] /\ Act.get a' 0 = .pointer (some ⟨blk, off, none⟩) /\ Mod (only blk) w w' /\ Cur σ F blk off (d v) w' /\
  ∀ C t, w.heap[blk]? = some (.cells C t (0, 0)) -> ∃ C', w'.heap[blk]? = some (.cells C' t (0, 0)) /\ C'.size = C.size /\ ∀ j, j < off \/ off + σ.sz <= j -> C'[j]? = C[j]?) a w
section
variable {P : Program} {σ : St} {N : Nat} {d d' : SV -> SV} {c c' : Code} {id i o k T yt : Nat} {ty : Ty} {t1 t2 t3 : Nat} {y1 y2 y3 y4 : TypeId} {p1 p2 p3 p4 : String} {e1 e2 e3 e4 : Array Edge} {val : Value} {u : Tr}
theorem dblk_skip : DBlk P σ N .skip (fun v => v) := fun F blk off v a w h1 h2 h3 h4 _ => wp_skip ⟨rfl, h1, h2, h3, .refl w, h4, fun C t hc => ⟨C, hc, rfl, fun _ _ => rfl⟩⟩
theorem dblk_seq (h : DBlk P σ N c d) (h' : DBlk P σ N c' d') : DBlk P σ N (.seq c c') (fun v => d' (d v)) := by
 intro F blk off v a w h1 h2 h3 h4 h5
 refine wp_seq (wp_mono (h F blk off v a w h1 h2 h3 h4 h5) ?_)
 rintro e a1 w1 ⟨rfl, g1, g2, g3, g4, g5, g6⟩
 refine wp_mono (h' F blk off _ a1 w1 g1 g2 g3 g5 h5) ?_
 rintro e a2 w2 ⟨rfl, k1, k2, k3, k4, k5, k6⟩
 refine ⟨rfl, k1, k2, k3, g4.trans k4, k5, fun C t hc => ?_⟩
 obtain ⟨C1, q1, q2, q3⟩ := g6 C t hc
 obtain ⟨C2, r1, r2, r3⟩ := k6 C1 t q1
 exact ⟨C2, r1, r2.trans q2, fun j hj => (r3 j hj).trans (q3 j hj)⟩
theorem dblk_set (hat : σ.lay.at i = some (o, ty)) (hok : σ.okAt i o ty = true) (h1 : ty.size = 1) (hf : fieldOff P T k = some o) (hsz : sized P yt 1 = true) (hval : val.oneCell' = true) (hrep : ∀ w F, Rep w F ty (fun _ => val) u)
  (hs : (decide (t1 < N) && decide (t2 < N) && decide (t3 < N) && t1 != 0 && t2 != 0 && t3 != 0) = true) :
  DBlk P σ N (.region id #[⟨some t1, .move (.tmp 0), y1, p1, e1, none⟩, ⟨some t2, .nilCheck (.tmp t1), y2, p2, e2, none⟩, ⟨some t3, .fieldAddr T (.tmp t2) k, y3, p3, e3, none⟩, ⟨none, .store yt (.tmp t3) (.const val), y4, p4, e4, none⟩] false) (fun v => (v.1.set i u, v.2)) := by
 intro F blk off v a w hN hd hp hC hF
 simp only [Bool.and_eq_true, bne_iff_ne, decide_eq_true_eq] at hs
 obtain ⟨⟨⟨⟨⟨l1, l2⟩, l3⟩, n1⟩, n2⟩, n3⟩ := hs
 obtain ⟨C, t, c1, c2, c3, c4⟩ := hC.mem
 simp only [St.okAt, Bool.and_eq_true] at hok
 have hin := Lay.at_in _ _ _ _ _ _ hok.1.1 hat
 have htg : ∀ q, σ.tg = some q -> q < σ.sz /\ (q < o \/ o + ty.size <= q) := fun q hq => by
  have := hok.1.2
  rw [hq] at this
  simpa using this
 have hbo : off + o < C.size := by omega
 refine wp_region_lit (Zv rfl Zm (Zv rfl (x_nilCheck (q := ⟨blk, off, none⟩) ?_) (Zv rfl (Za hf (b := blk) (o0 := off) ?_) ?_)))
 ·rw [Ze, Zq (by rw [hN]; exact l1), Ze, hp]
 ·rw [Ze, Zq (by simp only [Zs]; rw [hN]; exact l2)]
 refine wpl_abs (fun a' => a'.tmps.size = N /\ a'.defers = [] /\ Act.get a' 0 = .pointer (some ⟨blk, off, none⟩) /\ Act.get a' t3 = .pointer (some ⟨blk, off + o, none⟩)) ⟨by simp only [Zs]; exact hN, by simp only [Zd]; exact hd, ?_, ?_⟩ ?_
 ·rw [Zn n3, Zn n2, Zn n1, hp]
 ·rw [Zq (by simp only [Zs]; rw [hN]; exact l3)]
 rintro a' ⟨g1, g2, g3, g4⟩
 refine wpl_skip rfl (x_store1 hsz (b := blk) (o := off + o) (v := val) (u := C[off + o]) (by rw [Ze, g4]) rfl hval (by rw [Zc c1]; exact Array.getElem?_eq_getElem hbo) (Zz c1)) (wpList_nil ?_)
 rw [Zo]
 have hm : Mod (only blk) w (w.setCell ⟨blk, off + o, none⟩ val) := (Mod.refl w).put _ _
 refine ⟨rfl, g1, g2, g3, hm, ?_, fun D td hD => ?_⟩
 ·refine cur_store hok.1.1 htg hat hC hF hm c1 (heap_setCell_same c1 _) (by simp) (fun j hj => by rw [Array.getElem?_setIfInBounds_ne (by omega)]) ?_
  refine Rep.congr ty (fun _ => val) _ _ hin.2.2 (fun j hj => ?_) (hrep w F)
  have : j = 0 := by omega
  subst this
  exact get_from' (by simp [hbo])
 ·rw [c1] at hD
  obtain ⟨rfl, rfl⟩ : C = D /\ t = td := by simpa using hD
  exact ⟨_, heap_setCell_same c1 _, by simp, fun j hj => by rw [Array.getElem?_setIfInBounds_ne (by omega)]⟩
theorem dfc_rule {fd : FuncId} {fn : Func} (hf : P.funcs[fd]? = some fn) (hbody : fn.body = some c) (hN : fn.ntmps = N) (hres : fn.results = #[]) (hN1 : 1 <= N) (h : DBlk P σ N c d) : DfC P fd σ d := by
 intro F blk off v w hC hF
 refine calls_of_wp hf hbody ?_
 rw [hN]
 refine wp_mono (h F blk off v _ w ?_ rfl (by rw [Zj _ _ _ (by simp)]; rfl) hC hF) ?_
 ·simp; omega
 rintro e a' w' ⟨rfl, g1, g2, g3, g4, g5, g6⟩
 exact ⟨g2, .tuple #[], by simp [results, hres], ⟨_, rfl⟩, g4, g5, g6⟩
end
end Go.Proofs.YtpecdnfmlodmaaaGreatDoorR
