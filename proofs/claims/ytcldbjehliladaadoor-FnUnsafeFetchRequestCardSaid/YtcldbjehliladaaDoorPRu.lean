/-
  Sixteen octets: how they are read.
  Rules for the code that reads a message: a test of the version between two bounds. No program in it.
  Rules for the code that reads a message: a part that may be none; a text that is put into a new variable. No program in it.
  What a struct is at first; 'Default'. No program in it.
-/
import Derived.Test.YtcldbjehliladaaDoorPRq
set_option linter.unusedSimpArgs false
set_option linter.unusedVariables false
namespace Go.Proofs.YtcldbjehliladaaDoor
open Go Go.RowKit
/-- sixteen octets, or none and then noughts -/
def rdUuid (s : RS) : List UInt8 × RS := (if (rdSpan 16 s).1.1.length = 16 then (rdSpan 16 s).1.1 else List.replicate 16 0, (rdSpan 16 s).2)
/-- a method that reads sixteen octets -/
theorem rdUuid_len (s : RS) : (rdUuid s).1.length = 16 := by unfold rdUuid; simp only []; split <;> simp_all
section
variable {P : Program} {Γ : Sl} {σ σ' : St} {f g : FT} {id id' id1 id2 id3 id4 id5 : Nat} {ty ety : Ty} {rd : RS -> Tr × RS} {sa sl si sv sz b0 b1 : Nat} {z : Nat -> Value}
 {y1 y2 y3 y4 y5 y6 y7 y8 y9 : TypeId} {p1 p2 p3 p4 p5 p6 p7 p8 p9 : String} {e1 e2 e3 e4 e5 e6 e7 e8 e9 : Array Edge} {ts ts1 ts2 : Array TypeId} {t1 t2 t3 t4 t5 t6 tb : Nat} {yg yh ym yn : TypeId}
 {i o k T LT UT e : Nat}
theorem repv_uuid {w : World} {F : Nat -> Prop} {v : Value} {t : Tr} (h : RepV w F .uuid v t) : ∃ cs : Array Value, v = .agg cs /\ cs.size = 16 /\ cs.all (·.oneCell') = true /\ Rep w F .uuid (from' cs 0) t := by
 rcases h with ⟨h, _⟩ | ⟨_, h⟩
 ·simp [Ty.size] at h
 ·exact h
/-- 'v := b.Uuid()', kept in a new variable -/
theorem box_uuid {fu : Nat} (hU : RdC P fu .uuid rd) (hb : bodied P fu = true) (hsz : sized P UT 16 = true) (hz : ∃ z : Value, zeroOf P UT = some z /\ z.cells.size = 16) (hs : (Γ.free t1 && Γ.free tb && t1 != tb) = true)
  {x : Cx} {F : Nat -> Prop} {s : RS} {a : Act} {w : World} (hA : Amb Γ x s a w) (hF1 : F x.sb) (hF2 : ∀ k, w.heap.size <= k -> F k) :
  (Code.region id #[⟨some t1, .call ⟨.value (.func fu), #[.tmp Γ.b], ts⟩, y1, p1, e1, none⟩, ⟨some tb, .alloc UT, y2, p2, e2, none⟩, ⟨none, .store UT (.tmp tb) (.tmp t1), y3, p3, e3, none⟩] false).wp P
   (fun e a' w' => e = .normal /\ Amb Γ x (rd s).2 a' w' /\ SameBut (fun t => t = t1 \/ t = tb) a a' /\ Mod (only x.rb) w w' /\ ∃ bb cs ty, Act.get a' tb = .pointer (some ⟨bb, 0, none⟩) /\ w'.heap[bb]? = some (.cells cs ty (0, 0)) /\ cs.size = 16 /\ cs.all (·.oneCell') = true /\ Rep w' F .uuid (from' cs 0) (rd s).1 /\ w.heap.size <= bb) a w := by
 simp only [Bool.and_eq_true, bne_iff_ne] at hs
 obtain ⟨⟨f1, fb⟩, n1b⟩ := hs
 have z1 := hA.lt f1
 have zb := hA.lt fb
 obtain ⟨z, hz, hzs⟩ := hz
 have e0 : ∀ a : Act, Act.get a Γ.b = .pointer (some ⟨x.rb, 0, none⟩) -> (#[Operand.tmp Γ.b] : Array Operand).map a.eval = #[.pointer (some ⟨x.rb, 0, none⟩)] := fun a h => by simp [Ze, h]
 refine wp_region_lit (wpl_call rfl (Zy hb rfl) (by rw [e0 _ hA.b]; exact hU w x.rb x.sb s hA.rd) ?_)
 rintro e w1 ⟨⟨v, rfl, hV⟩, hrd, hmod⟩
 obtain ⟨cs, rfl, hcs, hall, hrep⟩ := repv_uuid (hV F hF1 hF2)
 refine ⟨_, rfl, Zv rfl (x_alloc hz) ?_⟩
 have k1 := Zh w1 (.cells z.cells UT)
 have m1 : Mod none' w1 (w1.alloc (.cells z.cells UT)) := (Mod.refl w1).alloc _
 have s1 : (w1.alloc (.cells z.cells UT)).heap.size = w1.heap.size + 1 := by simp
 have hsize := hmod.size
 generalize w1.alloc (.cells z.cells UT) = w2 at *
 refine wpl_skip rfl (x_storeN (cs := cs) (b := w1.heap.size) (o := 0) (by rw [hcs]; exact hsz) ?_ ?_ hall ?_) (wpList_nil ?_)
 ·rw [Ze, Zq (by simp only [Zs]; exact zb)]
 ·rw [Ze, Zn (Ne.symm n1b), Zq z1]
 ·intro j hj
  rw [Zc k1, Zz k1, Array.getElem?_eq_getElem (by omega)]
  exact ⟨rfl, rfl⟩
 obtain ⟨C3, q1, q2, q3, q4⟩ := heap_setCells (w := w2) cs.toList 0 _ k1
 have hC3 : C3 = cs := by
  apply Array.ext
  ·omega
  ·intro i h1 h2
   have := q3 i (by simpa using h2) (by omega)
   rw [Nat.zero_add, Array.getElem?_eq_getElem h1] at this
   simpa [h2] using this
 subst hC3
 have hm2 := mod_setCells w1.heap.size w2 0 C3.toList
 have hrb : x.rb < w1.heap.size := hrd.1
 have hA1 := (hA.put f1 (.agg C3)).put fb (.pointer (some ⟨w1.heap.size, 0, none⟩))
 have he1 := hA.err.mod hmod (Ne.symm hA.glob)
 have hgl : gErr < w1.heap.size := World.block_lt_of_cell? _ _ he1.1
 refine ⟨rfl, ?_, ((SameBut.refl a).put (.inl rfl) _).put (.inr rfl) _, (hmod.trans m1.none).trans' hm2 (fun _ _ h => h) (fun i hi e => by have : i = w1.heap.size := e; omega), w1.heap.size, C3, UT, ?_, q1, hcs, hall, ?_, by omega⟩
 ·refine Amb.world hA1 ?_ ((he1.mod m1 (fun f => f)).mod hm2 (fun e => by have : gErr = w1.heap.size := e; omega))
  obtain ⟨r1, r2, src, t, r3, r4⟩ := hrd
  refine ⟨by have := m1.size; have := hm2.size; omega, r2, src, t, hm2.some (m1.some r3 (fun f => f)) (fun e => by have : x.rb = w1.heap.size := e; omega), ?_⟩
  rcases r4 with r4 | ⟨r4, off, cap, c, t', fr, r5, r6, r7, r8, r9⟩
  ·exact .inl r4
  ·have := lt_of_block r8
   exact .inr ⟨r4, off, cap, c, t', fr, r5, r6, r7, hm2.some (m1.some r8 (fun f => f)) (fun e => by have : x.sb = w1.heap.size := e; omega), r9⟩
 ·rw [Zo, Zq (by simp only [Zs]; exact zb)]
 ·exact hrep
/-- 's.F = v', sixteen octets -/
theorem blk_uuid {fu : Nat} (hU : RdC P fu .uuid rd) (hb : bodied P fu = true) (hsz : sized P UT 16 = true) (hz : ∃ z : Value, zeroOf P UT = some z /\ z.cells.size = 16) (hmany : many P UT 16 = true) (hat : σ.lay.at i = some (o, .uuid)) (hok : σ.okAt i o .uuid = true) (hf : fieldOff P T k = some o)
  (hs : (Γ.free t1 && Γ.free tb && t1 != tb && Γ.free t2 && Γ.free t3 && Γ.free t4 && Γ.free t5 && t1 != σ.s && tb != σ.s && t2 != tb && t3 != t2 && t4 != t3 && t5 != t3 && t2 != σ.s && t3 != σ.s && t4 != σ.s && t5 != σ.s) = true) :
  Blk P Γ σ (.seq (.region id1 #[⟨some t1, .call ⟨.value (.func fu), #[.tmp Γ.b], ts⟩, y1, p1, e1, none⟩, ⟨some tb, .alloc UT, y2, p2, e2, none⟩, ⟨none, .store UT (.tmp tb) (.tmp t1), y3, p3, e3, none⟩] false)
   (.region id2 #[⟨some t2, .move (.tmp σ.s), y4, p4, e4, none⟩, ⟨some t3, .load UT (.tmp tb), y5, p5, e5, none⟩, ⟨some t4, .nilCheck (.tmp t2), y6, p6, e6, none⟩, ⟨some t5, .fieldAddr T (.tmp t4) k, y7, p7, e7, none⟩, ⟨none, .store UT (.tmp t5) (.tmp t3), y8, p8, e8, none⟩] false)) (putF i (fun _ _ => rd)) := by
 intro x F blk off v s a w hA hp hC hS _
 simp only [Bool.and_eq_true, bne_iff_ne] at hs
 obtain ⟨⟨⟨⟨⟨⟨⟨⟨⟨⟨⟨⟨⟨⟨⟨⟨f1, fb⟩, n1b⟩, f2⟩, f3⟩, f4⟩, f5⟩, m1⟩, mb⟩, n2b⟩, n32⟩, n43⟩, n53⟩, m2⟩, m3⟩, m4⟩, m5⟩ := hs
 refine wp_seq (wp_mono (box_uuid hU hb hsz hz (by simp [f1, fb, n1b]) hA hS.src hS.fresh) ?_)
 rintro e a1 w1 ⟨rfl, hA1, hsb1, hmod, bb, cs, tyb, hgb, hbb, hcs, hall, hrep, hbbn⟩
 have hS1 := hS.later hmod.size
 have hC1 : Cur σ F blk off v w1 := hC.later hmod hS.rb (fun k hk => (hS.apart k hk).1)
 have hp1 : Act.get a1 σ.s = .pointer (some ⟨blk, off, none⟩) := (hsb1.get _ (by rintro (h | h); exact m1 h.symm; exact mb h.symm)).trans hp
 have z2 := hA1.lt f2
 have z3 := hA1.lt f3
 have z4 := hA1.lt f4
 have z5 := hA1.lt f5
 obtain ⟨C, t, h1, h2, h3, h4⟩ := hC1.mem
 simp only [St.okAt, Bool.and_eq_true] at hok
 have hin := Lay.at_in _ _ _ _ _ _ hok.1.1 hat
 simp only [Ty.size] at hin
 have htg : ∀ q, σ.tg = some q -> q < σ.sz /\ (q < o \/ o + Ty.uuid.size <= q) := fun q hq => by
  have := hok.1.2
  rw [hq] at this
  simpa using this
 have hFb : ∀ k, F k -> k ≠ blk := fun k hk => (hS.apart k hk).2
 refine wp_region_lit (Zv rfl Zm (Zv rfl (x_loadN (cs := cs.toList) (b := bb) (o := 0) (by rw [Array.length_toList, hcs]; exact hmany) (by rw [Ze, Zn n2b, hgb]) (fun j v hv => by rw [Zc hbb, Nat.zero_add]; simpa using hv)) (Zv rfl (x_nilCheck (q := ⟨blk, off, none⟩) ?_) (Zv rfl (Za hf (b := blk) (o0 := off) ?_) ?_))))
 ·rw [Ze, Zn n32, Zq z2, Ze, hp1]
 ·rw [Ze, Zq (by simp only [Zs]; exact z4)]
 refine wpl_abs (fun a2 => Amb Γ x (rd s).2 a2 w1 /\ SameBut (fun t => t = t2 \/ t = t3 \/ t = t4 \/ t = t5) a1 a2 /\ Act.get a2 t5 = .pointer (some ⟨blk, off + o, none⟩) /\ Act.get a2 t3 = .agg cs) ⟨(((hA1.put f2 _).put f3 _).put f4 _).put f5 _, ((((SameBut.refl a1).put (.inl rfl) _).put (.inr (.inl rfl)) _).put (.inr (.inr (.inl rfl))) _).put (.inr (.inr (.inr rfl))) _, ?_, ?_⟩ ?_
 ·rw [Zq (by simp only [Zs]; exact z5)]
 ·rw [Zn n53, Zn n43, Zq (by simp only [Zs]; exact z3)]
 rintro a2 ⟨hA2, hsb2, hg5, hg3⟩
 refine wpl_skip rfl (x_storeN (cs := cs) (b := blk) (o := off + o) (by rw [hcs]; exact hsz) (by rw [Ze, hg5]) (by rw [Ze, hg3]) hall ?_) (wpList_nil ?_)
 ·intro j hj
  rw [Zc h1, Zz h1, Array.getElem?_eq_getElem (by omega)]
  exact ⟨rfl, rfl⟩
 rw [Zo]
 obtain ⟨C', g1, g2, g3, g4⟩ := heap_setCells (w := w1) cs.toList (off + o) C h1
 simp only [Array.length_toList] at g3 g4
 have hm2 := mod_setCells blk w1 (off + o) cs.toList
 refine ⟨_, _, rfl, hA2.world (hA2.rd.mod hm2 (fun e => hS.rb e.symm) (fun e => (hS.apart _ hS.src).2 e)) (hA2.err.mod hm2 (fun e => hS.glob e.symm)), ?_, ?_, ?_⟩
 ·refine cur_store hok.1.1 htg hat hC1 hFb hm2 h1 g1 g2 (fun j hj => g4 j (by simp only [Ty.size] at hj; omega)) ?_
  refine Rep.congr .uuid (from' cs 0) _ _ rfl (fun j hj => ?_) hrep
  simp only [Ty.size] at hj
  have h5 := g3 j (by omega) (by omega)
  refine get_from' ?_
  rw [<- Nat.add_assoc, h5]
  simp [from', show j < cs.size by omega]
 ·refine (hsb1.mono fun t ht => ?_).trans (hsb2.mono fun t ht => ?_)
  ·rcases ht with rfl | rfl <;> simp [W, writes]
  ·rcases ht with rfl | rfl | rfl | rfl <;> simp [W, writes]
 ·refine (Stp.of_rd hmod hS.rb).trans ⟨hm2.mono fun _ _ e => .inr e, fun D td hD => ?_⟩
  rw [h1] at hD
  obtain ⟨rfl, rfl⟩ : C = D /\ t = td := by simpa using hD
  exact ⟨C', g1, g2, fun j hj => g4 j (by omega)⟩
end
end Go.Proofs.YtcldbjehliladaaDoor
set_option linter.unusedSimpArgs false
set_option linter.unusedVariables false
namespace Go.Proofs.YtcldbjehliladaaDoor
open Go Go.RowKit
section
variable {P : Program} {Γ : Sl} {id : Nat} {y1 y2 y3 y4 y5 y6 : TypeId} {p1 p2 p3 p4 p5 p6 : String} {e1 e2 e3 e4 e5 e6 : Array Edge} {t1 t2 t3 t4 t5 t6 : Nat} {yg yh yg' yh' : TypeId}
/-- 'version >= m && version <= k' -/
theorem tst_and {m k : Int} (hs : (Γ.free t1 && Γ.free t2 && Γ.free t3 && Γ.free t4 && Γ.free t5 && Γ.free t6 && t4 != t3 && t5 != t3) = true) :
  Tst P Γ (.region id #[⟨some t1, .move (.tmp Γ.ver), y1, p1, e1, none⟩, ⟨some t2, .binOp .geq yg (.tmp t1) (.const (.int .i16 m)) yh, y2, p2, e2, none⟩, ⟨some t3, .move (.tmp t2), y3, p3, e3, none⟩, ⟨some t4, .move (.tmp Γ.ver), y4, p4, e4, some (2, true)⟩,
   ⟨some t5, .binOp .leq yg' (.tmp t4) (.const (.int .i16 k)) yh', y5, p5, e5, some (2, true)⟩, ⟨some t6, .pick (.tmp t3) (.tmp t5) (.const (.bool false)), y6, p6, e6, none⟩] false) t6 (fun v _ => decide (m <= v) && decide (v <= k)) := by
 intro x s a w hA
 simp only [Bool.and_eq_true, bne_iff_ne] at hs
 obtain ⟨⟨⟨⟨⟨⟨⟨f1, f2⟩, f3⟩, f4⟩, f5⟩, f6⟩, n43⟩, n53⟩ := hs
 have z1 := hA.lt f1
 have z2 := hA.lt f2
 have z3 := hA.lt f3
 have z4 := hA.lt f4
 have z5 := hA.lt f5
 have z6 := hA.lt f6
 refine wp_mono (Q := fun e a' w' => e = .normal /\ w' = w /\ Amb Γ x s a' w' /\ Act.get a' t6 = .bool (decide (m <= x.ver) && decide (x.ver <= k)) /\ SameBut (fun t => t = t1 \/ t = t2 \/ t = t3 \/ t = t4 \/ t = t5 \/ t = t6) a a') ?_ ?_
 ·refine wp_region_lit (Zv rfl Zm (Zv rfl (x_geq (k := .i16) (m := x.ver) (n := m) (by rw [Ze, Zq z1, Ze, hA.ver]) rfl) (Zv rfl Zm ?_)))
  refine wpl_abs (fun a' => Amb Γ x s a' w /\ Act.get a' t3 = .bool (decide (m <= x.ver)) /\ SameBut (fun t => t = t1 \/ t = t2 \/ t = t3 \/ t = t4 \/ t = t5 \/ t = t6) a a') ⟨((hA.put f1 _).put f2 _).put f3 _, ?_, (((SameBut.refl a).put (.inl rfl) _).put (.inr (.inl rfl)) _).put (.inr (.inr (.inl rfl))) _⟩ ?_
  ·rw [Zq (by simp only [Zs]; exact z3), Ze, Zq (by simp only [Zs]; exact z2)]
  rintro a1 ⟨hA1, h3, hsb1⟩
  have q1 : a1.tmps.size = a.tmps.size := hsb1.size
  by_cases hv : m <= x.ver
  ·rw [decide_eq_true hv] at h3
   refine wpl_gval (k := 2) (d := t3) (b := true) rfl rfl h3 Zm ?_
   have h3' : Act.get (a1.put (some t4) (a1.eval (.tmp Γ.ver))) t3 = .bool true := by rw [Zn n43, h3]
   refine wpl_gval (k := 2) (d := t3) (b := true) rfl rfl h3' (x_leq (k := .i16) (m := x.ver) (n := k) (by rw [Ze, Zq (by rw [q1]; exact z4), Ze, hA1.ver]) rfl) ?_
   refine Zv rfl (x_pickT (v := .bool (decide (x.ver <= k))) (by rw [Ze, Zn n53]; exact h3') (by rw [Ze, Zq (by simp only [Zs]; rw [q1]; exact z5)])) (wpList_nil ⟨rfl, rfl, ((hA1.put f4 _).put f5 _).put f6 _, ?_, ((hsb1.put (.inr (.inr (.inr (.inl rfl)))) _).put (.inr (.inr (.inr (.inr (.inl rfl))))) _).put (.inr (.inr (.inr (.inr (.inr rfl))))) _⟩)
   rw [Zq (by simp only [Zs]; rw [q1]; exact z6), decide_eq_true hv]; rfl
  ·rw [decide_eq_false hv] at h3
   refine wpl_unwanted ((wanted_of (k := 2) (d := t3) rfl rfl h3).trans rfl) ?_
   have h3' : Act.get (a1.put (some t4) undef) t3 = .bool false := by rw [Zn n43, h3]
   refine wpl_unwanted ((wanted_of (k := 2) (d := t3) rfl rfl h3').trans rfl) ?_
   refine Zv rfl (x_pickF (v := .bool false) (by rw [Ze, Zn n53]; exact h3') rfl) (wpList_nil ⟨rfl, rfl, ((hA1.put f4 _).put f5 _).put f6 _, ?_, ((hsb1.put (.inr (.inr (.inr (.inl rfl)))) _).put (.inr (.inr (.inr (.inr (.inl rfl))))) _).put (.inr (.inr (.inr (.inr (.inr rfl))))) _⟩)
   rw [Zq (by simp only [Zs]; rw [q1]; exact z6), decide_eq_false hv]; rfl
 ·rintro e a' w' ⟨rfl, rfl, h1, h2, h3⟩
  refine ⟨rfl, rfl, h1, h2, h3.mono fun t ht => ?_⟩
  rcases ht with rfl | rfl | rfl | rfl | rfl | rfl <;> simp [W, writes]
end
end Go.Proofs.YtcldbjehliladaaDoor
set_option linter.unusedSimpArgs false
set_option linter.unusedVariables false
namespace Go.Proofs.YtcldbjehliladaaDoor
open Go Go.RowKit
/-- a part that may be none -/
def psubF (i : Nat) (rp : Int -> Bool -> RS -> Tr × RS) (z : SV) (f : FT) : FT := fun ver fl v s =>
 if ((rp ver fl s).1.N != -1 && !(rp ver fl s).2.bad) = true then (f ver fl z (rp ver fl s).2).then fun v' s' => .ok (v.1.set i (.part v'.1 v'.2), v.2) s' else .ok v (rp ver fl s).2
section
variable {P : Program} {Γ : Sl} {σ σ' : St} {f g : FT} {id id' id1 id2 id3 id4 id5 : Nat} {rp : Int -> Bool -> RS -> Tr × RS}
 {y1 y2 y3 y4 y5 y6 y7 y8 y9 y10 y11 y12 y13 y14 : TypeId} {p1 p2 p3 p4 p5 p6 p7 p8 p9 p10 p11 p12 p13 p14 : String} {e1 e2 e3 e4 e5 e6 e7 e8 e9 e10 e11 e12 e13 e14 : Array Edge} {ts ts1 : Array TypeId} {t0 t1 t2 t3 t4 t5 t6 t7 t8 t9 t10 t11 : Nat} {yg yh : TypeId}
 {cl ct rest : Code} {i o k T : Nat} {pv sp fd ET PT : Nat}
/-- a text's box is written: the reader stays -/
theorem Rd.box {w : World} {rb sb kb T : Nat} {s : RS} {q q' : ByteArray} (h : Rd w rb sb s) (hk : w.heap[kb]? = some (.cells #[.string q] T (0, 0))) (hne : rb ≠ kb) : Rd (w.setCell ⟨kb, 0, none⟩ (.string q')) rb sb s := by
 have hm : Mod (only kb) w (w.setCell ⟨kb, 0, none⟩ (.string q')) := (Mod.refl w).put _ _
 obtain ⟨hl, hn, src, t, hb, hs⟩ := h
 refine ⟨hm.lt hl, hn, src, t, hm.some hb hne, ?_⟩
 by_cases he : sb = kb
 ·subst he
  rcases hs with hs | ⟨n1, off, cap, c, t', fr, n2, n3, n4, n5, n6⟩
  ·exact .inl hs
  ·rw [hk] at n5
   obtain ⟨rfl, rfl, rfl⟩ : #[Value.string q] = c /\ T = t' /\ (0, 0) = fr := by simpa using n5
   have h0 : s.bs.length = 0 := by
    apply Classical.byContradiction
    intro hne0
    have := n6 0 (by omega)
    rw [Nat.add_zero] at this
    cases off with
    | zero => simp at this
    | succ n => simp at this
   exact .inr ⟨n1, off, cap, _, T, (0, 0), n2, n3, n4, heap_setCell_same hk _, fun i hi => by omega⟩
 ·exact hs.mod hm he
end
end Go.Proofs.YtcldbjehliladaaDoor
set_option linter.unusedSimpArgs false
set_option linter.unusedVariables false
namespace Go.Proofs.YtcldbjehliladaaDoor
open Go Go.RowKit
def zeros (c : Nat -> Value) : Nat -> Prop
 | 0 => True
 | n + 1 => c n = .int .u8 0 /\ zeros c n
theorem zeros_at {c : Nat -> Value} : ∀ {n j : Nat}, zeros c n -> j < n -> c j = .int .u8 0
 | n + 1, j, h, hj => by
  by_cases e : j = n
  ·rw [e]; exact h.1
  ·exact zeros_at h.2 (by omega)
mutual
/-- nothing has been put in -/
def Ty.zero : Ty -> Tr
 | .int _ => .num 0
 | .bool => .ofBool false
 | .float => .num (wrap64 0)
 | .str => .oct []
 | .pstr => .ofOpt none
 | .bytes => .octs [] true
 | .uuid => .oct (List.replicate 16 0)
 | .list _ _ => .nul
 | .struct lay _ _ => .part lay.zeroL []
 | .pstruct _ _ _ => .nul
def Lay.zeroL : Lay -> List Tr
 | .nil => []
 | .cons _ t r => t.zero :: r.zeroL
end
mutual
def Ty.isZero : Ty -> (Nat -> Value) -> Prop
 | .int k, c => c 0 = .int k 0
 | .bool, c => c 0 = .bool false
 | .float, c => c 0 = .float .f64 0
 | .str, c => c 0 = .string (str [])
 | .pstr, c => c 0 = .pointer none
 | .bytes, c => c 0 = .slice none 0 0
 | .uuid, c => zeros c 16
 | .list _ _, c => c 0 = .slice none 0 0
 | .struct lay tg _, c => lay.isZero c /\ match tg with | some o => c o = .map none | none => True
 | .pstruct _ _ _, c => c 0 = .pointer none
def Lay.isZero : Lay -> (Nat -> Value) -> Prop
 | .nil, _ => True
 | .cons o t r, c => t.isZero (fun j => c (o + j)) /\ r.isZero c
end
mutual
theorem Ty.zero_rep {w : World} {F : Nat -> Prop} : ∀ (t : Ty) (c : Nat -> Value), t.isZero c -> Rep w F t c t.zero
 | .int k, c, h => by simp only [Ty.isZero] at h; simp only [Rep, Ty.zero]; exact ⟨0, h, fits_zero k, rfl⟩
 | .bool, c, h => by simp only [Ty.isZero] at h; simp only [Rep, Ty.zero]; exact ⟨false, h, rfl⟩
 | .float, c, h => by simp only [Ty.isZero] at h; simp only [Rep, Ty.zero]; exact ⟨0, h, by omega, rfl⟩
 | .str, c, h => by simp only [Ty.isZero] at h; simp only [Rep, Ty.zero]; exact ⟨[], h, by simp, rfl⟩
 | .pstr, c, h => by simp only [Ty.isZero] at h; simp only [Rep, Ty.zero]; exact ⟨none, h, fun _ e => (by cases e), rfl⟩
 | .bytes, c, h => by simp only [Ty.isZero] at h; simp only [Rep, Ty.zero]; exact ⟨[], true, by rw [h]; exact .inl ⟨0, .inl rfl, .inl ⟨rfl, rfl, rfl⟩⟩, by simp, rfl⟩
 | .uuid, c, h => by
  simp only [Ty.isZero] at h; simp only [Rep, Ty.zero]
  refine ⟨List.replicate 16 0, by simp, fun i hi => ?_, rfl⟩
  rw [zeros_at h (by simpa using hi), List.getElem_replicate]
  rfl
 | .list _ _, c, h => by simp only [Ty.isZero] at h; simp only [Rep, Ty.zero]; exact .inl ⟨h, trivial⟩
 | .struct lay tg _, c, h => by
  simp only [Ty.isZero] at h; simp only [Rep, Ty.zero]
  refine ⟨lay.zeroL, [], Lay.zero_rep lay c h.1, ?_, rfl⟩
  cases tg with
  | none => rfl
  | some o => exact .inl ⟨h.2, rfl⟩
 | .pstruct _ _ _, c, h => by simp only [Ty.isZero] at h; simp only [Rep, Ty.zero]; exact .inl ⟨h, trivial⟩
theorem Lay.zero_rep {w : World} {F : Nat -> Prop} : ∀ (lay : Lay) (c : Nat -> Value), lay.isZero c -> RepL w F lay c lay.zeroL
 | .nil, c, h => by simp only [RepL, Lay.zeroL]
 | .cons o t r, c, h => by
  simp only [Lay.isZero] at h
  simp only [RepL, Lay.zeroL]
  exact ⟨t.zero, r.zeroL, rfl, Ty.zero_rep t _ h.1, Lay.zero_rep r c h.2⟩
end
theorem zero_ok {lay : Lay} {tg : Option Nat} {z : Nat -> Value} (h : lay.isZero z) (ht : match tg with | some o => z o = .map none | none => True) : ∀ (w : World) (F : Nat -> Prop), RepL w F lay z (lay.zeroL, ([] : Tags)).1 /\ (match tg with | some o => TagsR w F (z o) (lay.zeroL, ([] : Tags)).2 | none => (lay.zeroL, ([] : Tags)).2 = []) := by
 intro w F
 refine ⟨Lay.zero_rep lay z h, ?_⟩
 cases tg with
 | none => rfl
 | some o => exact .inl ⟨ht, rfl⟩
/-- a piece of the code of 'Default' -/
def DBlk (P : Program) (σ : St) (N : Nat) (c : Code) (d : SV -> SV) : Prop :=
 ∀ F blk off v a w, a.tmps.size = N -> a.defers = [] -> Act.get a 0 = .pointer (some ⟨blk, off, none⟩) -> Cur σ F blk off v w -> (∀ k, F k -> k ≠ blk) -> c.wp P (fun e a' w' => e = .normal /\ a'.tmps.size = N /\ a'.defers = [] /\ Act.get a' 0 = .pointer (some ⟨blk, off, none⟩) /\ Mod (only blk) w w' /\ Cur σ F blk off (d v) w' /\
  ∀ C t, w.heap[blk]? = some (.cells C t (0, 0)) -> ∃ C', w'.heap[blk]? = some (.cells C' t (0, 0)) /\ C'.size = C.size /\ ∀ j, j < off \/ off + σ.sz <= j -> C'[j]? = C[j]?) a w
section
variable {P : Program} {σ : St} {N : Nat} {d d' : SV -> SV} {c c' : Code} {id i o k T yt : Nat} {ty : Ty} {t1 t2 t3 : Nat} {y1 y2 y3 y4 : TypeId} {p1 p2 p3 p4 : String} {e1 e2 e3 e4 : Array Edge} {val : Value} {u : Tr}
theorem dblk_skip : DBlk P σ N .skip (fun v => v) := fun F blk off v a w h1 h2 h3 h4 _ => wp_skip ⟨rfl, h1, h2, h3, .refl w, h4, fun C t hc => ⟨C, hc, rfl, fun _ _ => rfl⟩⟩
theorem dblk_seq (h : DBlk P σ N c d) (h' : DBlk P σ N c' d') : DBlk P σ N (.seq c c') (fun v => d' (d v)) := by
 intro F blk off v a w h1 h2 h3 h4 h5
 refine wp_seq (wp_mono (h F blk off v a w h1 h2 h3 h4 h5) ?_)
 rintro e a1 w1 ⟨rfl, g1, g2, g3, g4, g5, g6⟩
 refine wp_mono (h' F blk off _ a1 w1 g1 g2 g3 g5 h5) ?_
 rintro e a2 w2 ⟨rfl, k1, k2, k3, k4, k5, k6⟩
 refine ⟨rfl, k1, k2, k3, g4.trans k4, k5, fun C t hc => ?_⟩
 obtain ⟨C1, q1, q2, q3⟩ := g6 C t hc
 obtain ⟨C2, r1, r2, r3⟩ := k6 C1 t q1
 exact ⟨C2, r1, r2.trans q2, fun j hj => (r3 j hj).trans (q3 j hj)⟩
theorem dblk_set (hat : σ.lay.at i = some (o, ty)) (hok : σ.okAt i o ty = true) (h1 : ty.size = 1) (hf : fieldOff P T k = some o) (hsz : sized P yt 1 = true) (hval : val.oneCell' = true) (hrep : ∀ w F, Rep w F ty (fun _ => val) u)
  (hs : (decide (t1 < N) && decide (t2 < N) && decide (t3 < N) && t1 != 0 && t2 != 0 && t3 != 0) = true) :
  DBlk P σ N (.region id #[⟨some t1, .move (.tmp 0), y1, p1, e1, none⟩, ⟨some t2, .nilCheck (.tmp t1), y2, p2, e2, none⟩, ⟨some t3, .fieldAddr T (.tmp t2) k, y3, p3, e3, none⟩, ⟨none, .store yt (.tmp t3) (.const val), y4, p4, e4, none⟩] false) (fun v => (v.1.set i u, v.2)) := by
 intro F blk off v a w hN hd hp hC hF
 simp only [Bool.and_eq_true, bne_iff_ne, decide_eq_true_eq] at hs
 obtain ⟨⟨⟨⟨⟨l1, l2⟩, l3⟩, n1⟩, n2⟩, n3⟩ := hs
 obtain ⟨C, t, c1, c2, c3, c4⟩ := hC.mem
 simp only [St.okAt, Bool.and_eq_true] at hok
 have hin := Lay.at_in _ _ _ _ _ _ hok.1.1 hat
 have htg : ∀ q, σ.tg = some q -> q < σ.sz /\ (q < o \/ o + ty.size <= q) := fun q hq => by
  have := hok.1.2
  rw [hq] at this
  simpa using this
 have hbo : off + o < C.size := by omega
 refine wp_region_lit (Zv rfl Zm (Zv rfl (x_nilCheck (q := ⟨blk, off, none⟩) ?_) (Zv rfl (Za hf (b := blk) (o0 := off) ?_) ?_)))
 ·rw [Ze, Zq (by rw [hN]; exact l1), Ze, hp]
 ·rw [Ze, Zq (by simp only [Zs]; rw [hN]; exact l2)]
 refine wpl_abs (fun a' => a'.tmps.size = N /\ a'.defers = [] /\ Act.get a' 0 = .pointer (some ⟨blk, off, none⟩) /\ Act.get a' t3 = .pointer (some ⟨blk, off + o, none⟩)) ⟨by simp only [Zs]; exact hN, by simp only [Zd]; exact hd, ?_, ?_⟩ ?_
 ·rw [Zn n3, Zn n2, Zn n1, hp]
 ·rw [Zq (by simp only [Zs]; rw [hN]; exact l3)]
 rintro a' ⟨g1, g2, g3, g4⟩
 refine wpl_skip rfl (x_store1 hsz (b := blk) (o := off + o) (v := val) (u := C[off + o]) (by rw [Ze, g4]) rfl hval (by rw [Zc c1]; exact Array.getElem?_eq_getElem hbo) (Zz c1)) (wpList_nil ?_)
 rw [Zo]
 have hm : Mod (only blk) w (w.setCell ⟨blk, off + o, none⟩ val) := (Mod.refl w).put _ _
 refine ⟨rfl, g1, g2, g3, hm, ?_, fun D td hD => ?_⟩
 ·refine cur_store hok.1.1 htg hat hC hF hm c1 (heap_setCell_same c1 _) (by simp) (fun j hj => by rw [Array.getElem?_setIfInBounds_ne (by omega)]) ?_
  refine Rep.congr ty (fun _ => val) _ _ hin.2.2 (fun j hj => ?_) (hrep w F)
  have : j = 0 := by omega
  subst this
  exact get_from' (by simp [hbo])
 ·rw [c1] at hD
  obtain ⟨rfl, rfl⟩ : C = D /\ t = td := by simpa using hD
  exact ⟨_, heap_setCell_same c1 _, by simp, fun j hj => by rw [Array.getElem?_setIfInBounds_ne (by omega)]⟩
theorem dfc_rule {fd : FuncId} {fn : Func} (hf : P.funcs[fd]? = some fn) (hbody : fn.body = some c) (hN : fn.ntmps = N) (hres : fn.results = #[]) (hN1 : 1 <= N) (h : DBlk P σ N c d) : DfC P fd σ d := by
 intro F blk off v w hC hF
 refine calls_of_wp hf hbody ?_
 rw [hN]
 refine wp_mono (h F blk off v _ w ?_ rfl (by rw [Zj _ _ _ (by simp)]; rfl) hC hF) ?_
 ·simp; omega
 rintro e a' w' ⟨rfl, g1, g2, g3, g4, g5, g6⟩
 exact ⟨g2, .tuple #[], by simp [results, hres], ⟨_, rfl⟩, g4, g5, g6⟩
end
end Go.Proofs.YtcldbjehliladaaDoor
