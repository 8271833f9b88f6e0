/-
  Rules for the code that reads a message: tests of the version, choices, loops, lists. No program in it.
  Rules for the code that reads a list. No program in it.
  Rules for the code that reads a message's parts: a list as a field; elements; parts within. No program in it.
  Rules for the code that reads a message's parts: a list as a field. No program in it.
-/
import Derived.Deep.LoopGhost
import Derived.Lib.AppendZerosOnto
import Derived.Test.YtcldbjehliladaaDoorPAppB
set_option linter.unusedSimpArgs false
set_option linter.unusedVariables false
namespace Go.Proofs.YtcldbjehliladaaDoor
open Go Go.RowKit
theorem R.then_ok {α : Type} (r : R α) : r.then (fun v s => .ok v s) = r := by cases r <;> rfl
section
variable {w : World} {F : Nat -> Prop}
theorem Oct.lt' {v : Value} {bs : List UInt8} {nil : Bool} (h : Oct w F v bs nil) : Oct w (fun k => F k /\ k < w.heap.size) v bs nil := by
 rcases h with ⟨sb, h1, h2⟩ | h
 ·left
  rcases h1 with rfl | h1
  ·exact ⟨sb, .inl rfl, h2⟩
  ·rcases h2 with h2 | h2
   ·obtain ⟨rfl, h3, h4⟩ := h2
    exact ⟨sb, .inl rfl, .inl ⟨rfl, h3, h4⟩⟩
   ·obtain ⟨h3, off, cap, c, t, fr, h4, h5, h6, h7, h8⟩ := h2
    exact ⟨sb, .inr ⟨h1, lt_of_block h7⟩, .inr ⟨h3, off, cap, c, t, fr, h4, h5, h6, h7, h8⟩⟩
 ·exact .inr h
theorem PStr.lt' {v : Value} {o : Option (List UInt8)} (h : PStr w F v o) : PStr w (fun k => F k /\ k < w.heap.size) v o := by
 cases o with
 | none => exact h
 | some bs => obtain ⟨k, t, h1, h2, h3⟩ := h; exact ⟨k, t, ⟨h1, lt_of_block h3⟩, h2, h3⟩
theorem TagsR.lt' {v : Value} {u : Tags} (h : TagsR w F v u) : TagsR w (fun k => F k /\ k < w.heap.size) v u := by
 rcases h with h | ⟨r, es, clock, h1, h2, h3, h4, hlen, h4', kb, h5, h6, h7, h8⟩
 ·exact .inl h
 ·refine .inr ⟨r, es, clock, ⟨h1, lt_of_block h3⟩, h2, h3, h4, hlen, h4', kb, h5, h6, h7, fun i hi => ?_⟩
  obtain ⟨e, nil, g1, g2, g3, g4⟩ := h8 i hi
  exact ⟨e, nil, g1, g2, g3.lt', g4⟩
mutual
theorem Rep.lt : ∀ (ty : Ty) (c : Nat -> Value) (t : Tr), Rep w F ty c t -> Rep w (fun k => F k /\ k < w.heap.size) ty c t
 | .int k, c, t, h => h
 | .bool, c, t, h => h
 | .float, c, t, h => h
 | .str, c, t, h => h
 | .pstr, c, t, h => by
  simp only [Rep] at h ⊢
  obtain ⟨o, h1, h2⟩ := h; exact ⟨o, h1.lt', h2⟩
 | .bytes, c, t, h => by
  simp only [Rep] at h ⊢
  obtain ⟨bs, nil, h1, h2⟩ := h; exact ⟨bs, nil, h1.lt', h2⟩
 | .uuid, c, t, h => h
 | .list e sz, c, t, h => by
  simp only [Rep] at h ⊢
  rcases h with h | ⟨l, f, ⟨k, cap, C, ty, g1, g2, g3, g4, g5, g6⟩, hb, h2, h3⟩
  ·exact .inl h
  ·exact .inr ⟨l, f, ⟨k, cap, C, ty, ⟨g1, lt_of_block g5⟩, g2, g3, g4, g5, g6⟩, hb, fun i hi => Rep.lt e _ _ (h2 i hi), h3⟩
 | .struct lay tg sz, c, t, h => by
  simp only [Rep] at h ⊢
  obtain ⟨vs, u, h1, h2, h3⟩ := h
  refine ⟨vs, u, RepL.lt lay _ _ h1, ?_, h3⟩
  cases tg with
  | none => exact h2
  | some o => exact TagsR.lt' h2
 | .pstruct lay tg sz, c, t, h => by
  simp only [Rep] at h ⊢
  rcases h with h | ⟨k, C, ty, vs, u, h1, h2, h3, h4, h5, h6, h7⟩
  ·exact .inl h
  ·refine .inr ⟨k, C, ty, vs, u, ⟨h1, lt_of_block h3⟩, h2, h3, h4, RepL.lt lay _ _ h5, ?_, h7⟩
   cases tg with
   | none => exact h6
   | some o => exact TagsR.lt' h6
theorem RepL.lt : ∀ (lay : Lay) (c : Nat -> Value) (vs : List Tr), RepL w F lay c vs -> RepL w (fun k => F k /\ k < w.heap.size) lay c vs
 | .nil, c, vs, h => h
 | .cons o t r, c, vs, h => by
  simp only [RepL] at h ⊢
  obtain ⟨v, vs', h1, h2, h3⟩ := h
  exact ⟨v, vs', h1, Rep.lt t _ _ h2, RepL.lt r _ _ h3⟩
end
end
theorem Cur.lt {σ : St} {F : Nat -> Prop} {blk off : Nat} {v : SV} {w : World} (h : Cur σ F blk off v w) : Cur σ (fun k => F k /\ k < w.heap.size) blk off v w := by
 obtain ⟨C, t, h1, h2, h3, h4⟩ := h.mem
 refine ⟨C, t, h1, h2, RepL.lt _ _ _ h3, ?_⟩
 cases hg : σ.tg with
 | none => rw [hg] at h4; exact h4
 | some o => rw [hg] at h4; exact TagsR.lt' h4
/-- a test: of the version, or whether the message is flexible -/
def Tst (P : Program) (Γ : Sl) (c : Code) (t : Nat) (p : Int -> Bool -> Bool) : Prop :=
 ∀ x s a w, Amb Γ x s a w -> c.wp P (fun e a' w' => e = .normal /\ w' = w /\ Amb Γ x s a' w' /\ Act.get a' t = .bool (p x.ver x.flex) /\ SameBut (W c) a a') a w
section
variable {P : Program} {Γ : Sl} {σ : St} {f g : FT} {id id' : Nat} {ty : Ty} {rd rd' : Int -> Bool -> RS -> Tr × RS} {p q : Int -> Bool -> Bool}
 {y1 y2 y3 y4 y5 y6 : TypeId} {p1 p2 p3 p4 p5 p6 : String} {e1 e2 e3 e4 e5 e6 : Array Edge} {ts : Array TypeId} {u t : Nat} {k : Int} {yg yh : TypeId}
theorem tst_geq (hs : (Γ.free u && Γ.free t) = true) :
  Tst P Γ (.region id #[⟨some u, .move (.tmp Γ.ver), y1, p1, e1, none⟩, ⟨some t, .binOp .geq yg (.tmp u) (.const (.int .i16 k)) yh, y2, p2, e2, none⟩] false) t (fun v _ => decide (k <= v)) := by
 intro x s a w hA
 simp only [Bool.and_eq_true] at hs
 refine wp_region_lit (Zv rfl Zm (Zv rfl (x_geq (k := .i16) (m := x.ver) (n := k) ?_ rfl) (wpList_nil ⟨rfl, rfl, (hA.put hs.1 _).put hs.2 _, ?_, ?_⟩)))
 ·rw [Ze, Zq (hA.lt hs.1), Ze, hA.ver]
 ·rw [Zq (by rw [Zs]; exact hA.lt hs.2)]
 ·exact ((SameBut.refl a).put (by simp [W, writes]) _).put (by simp [W, writes]) _
theorem blk_skip : Blk P Γ σ .skip idF := by
 intro x F blk off v s a w hA hp hC hS _
 exact wp_skip ⟨v, s, rfl, hA, hC, .refl a, .refl w⟩
def ifF (p : Int -> Bool -> Bool) (f g : FT) : FT := fun ver fl v s => if p ver fl then f ver fl v s else g ver fl v s
theorem blk_if {c0 c1 c2 : Code} (h0 : Tst P Γ c0 t p) (h1 : Blk P Γ σ c1 f) (h2 : Blk P Γ σ c2 g) (hs : (writes c0).contains σ.s = false) : Blk P Γ σ (.seq c0 (.cond (.tmp t) c1 c2)) (ifF p f g) := by
 intro x F blk off v s a w hA hp hC hS hns
 have hs' : ¬ σ.s ∈ writes c0 := by simpa using hs
 refine wp_seq (wp_mono (h0 x s a w hA) ?_)
 rintro e a1 w1 ⟨rfl, rfl, hA1, hb, hsb⟩
 have hp1 := (hsb.get _ hs').trans hp
 cases hpv : p x.ver x.flex with
 | true =>
  have e1 : ifF p f g x.ver x.flex v s = f x.ver x.flex v s := by simp [ifF, hpv]
  rw [e1] at hns ⊢
  refine wp_cond_true (by rw [Ze, hb, hpv]) (wp_mono (h1 x F blk off v s a1 w1 hA1 hp1 hC hS hns) ?_)
  intro e a2 w2 h
  cases e with
  | normal =>
   obtain ⟨v2, s2, e2, hA2, hC2, hsb2, hst2⟩ := h
   exact ⟨v2, s2, e2, hA2, hC2, (hsb.mono fun t ht => by simp only [W, writes, List.mem_append] at *; exact .inl ht).trans (hsb2.mono fun t ht => by simp only [W, writes, List.mem_append] at *; exact .inr (.inl ht)), hst2⟩
  | ret => exact h
  | _ => exact h.elim
 | false =>
  have e1 : ifF p f g x.ver x.flex v s = g x.ver x.flex v s := by simp [ifF, hpv]
  rw [e1] at hns ⊢
  refine wp_cond_false (by rw [Ze, hb, hpv]) (wp_mono (h2 x F blk off v s a1 w1 hA1 hp1 hC hS hns) ?_)
  intro e a2 w2 h
  cases e with
  | normal =>
   obtain ⟨v2, s2, e2, hA2, hC2, hsb2, hst2⟩ := h
   exact ⟨v2, s2, e2, hA2, hC2, (hsb.mono fun t ht => by simp only [W, writes, List.mem_append] at *; exact .inl ht).trans (hsb2.mono fun t ht => by simp only [W, writes, List.mem_append] at *; exact .inr (.inr ht)), hst2⟩
  | ret => exact h
  | _ => exact h.elim
end
end Go.Proofs.YtcldbjehliladaaDoor
set_option linter.unusedSimpArgs false
set_option linter.unusedVariables false
namespace Go.Proofs.YtcldbjehliladaaDoor
open Go Go.RowKit
/-- reading so many elements -/
def elemsR (ef : RS -> R Tr) : Nat -> RS -> R (List Tr)
 | 0, s => .ok [] s
 | n + 1, s => (ef s).then fun t s => (elemsR ef n s).then fun ts s => .ok (t :: ts) s
abbrev EF := Int -> Bool -> RS -> R Tr
/-- a row of so many cells each, some of whose elements have been read -/
structure Row (w : World) (F : Nat -> Prop) (k cap sz : Nat) (ety : Ty) (z : Nat -> Value) (n : Nat) (ts : List Tr) : Prop where
 len : ts.length <= n
 room : n <= cap
 mem : ∃ C t, w.heap[k]? = some (.cells C t (0, 0)) /\ C.size = cap * sz /\ (∀ i (h : i < ts.length), Rep w F ety (from' C (i * sz)) ts[i]) /\ ∀ i, ts.length <= i -> i < n -> ∀ j, j < sz -> C[i * sz + j]? = some (z j)
theorem Row.mod {w w' : World} {F S : Nat -> Prop} {k cap sz n : Nat} {ety : Ty} {z : Nat -> Value} {ts : List Tr} (h : Row w F k cap sz ety z n ts) (hm : Mod S w w') (hk : ¬ S k) (hs : ∀ b, F b -> ¬ S b) : Row w' F k cap sz ety z n ts := by
 obtain ⟨C, t, h1, h2, h3, h4⟩ := h.mem
 exact ⟨h.len, h.room, C, t, hm.some h1 hk, h2, fun i hi => Rep.mod hm hs (fun _ h => h) _ _ _ (h3 i hi), h4⟩
theorem Row.step {w w' : World} {F S : Nat -> Prop} {k cap sz n : Nat} {ety : Ty} {z : Nat -> Value} {ts : List Tr} {t : Tr} (h : Row w F k cap sz ety z n ts) (hlt : ts.length < n) (hok : ety.ok = true) (hsz : ety.size = sz) (hm : Mod S w w') (hS : ∀ b, F b -> ¬ S b)
  (hout : ∀ C tc, w.heap[k]? = some (.cells C tc (0, 0)) -> ∃ C', w'.heap[k]? = some (.cells C' tc (0, 0)) /\ C'.size = C.size /\ (∀ j, j < ts.length * sz \/ ts.length * sz + sz <= j -> C'[j]? = C[j]?) /\ Rep w' F ety (from' C' (ts.length * sz)) t) :
  Row w' F k cap sz ety z n (ts ++ [t]) := by
 obtain ⟨C, tc, h1, h2, h3, h4⟩ := h.mem
 obtain ⟨C', g1, g2, g3, g4⟩ := hout C tc h1
 refine ⟨by simp; omega, h.room, C', tc, g1, g2.trans h2, fun i hi => ?_, fun i hi1 hi2 j hj => ?_⟩
 ·by_cases hil : i < ts.length
  ·rw [List.getElem_append_left hil]
   refine Rep.congr ety _ _ _ hok (fun j hj => ?_) (Rep.mod hm hS (fun _ h => h) _ _ _ (h3 i hil))
   rw [hsz] at hj
   have := Nat.mul_le_mul_right sz (show i + 1 <= ts.length by omega)
   rw [Nat.add_mul] at this
   simp only [from', Array.getD_eq_getD_getElem?]
   rw [g3 _ (.inl (by omega))]
  ·have : i = ts.length := by simp at hi; omega
   subst this
   simpa using g4
 ·simp at hi1
  have := Nat.mul_le_mul_right sz (show ts.length + 1 <= i by omega)
  rw [Nat.add_mul] at this
  rw [g3 _ (.inr (by omega))]
  exact h4 i (by omega) hi2 j hj
end Go.Proofs.YtcldbjehliladaaDoor
set_option linter.unusedSimpArgs false
set_option linter.unusedVariables false
namespace Go.Proofs.YtcldbjehliladaaDoor
open Go Go.RowKit
section
variable {P : Program} {Γ : Sl} {σ σ' : St} {f g : FT} {id id' id2 id3 : Nat} {ty ety : Ty} {rd rd' : Int -> Bool -> RS -> Tr × RS} {sa sl si sv sz b0 b1 : Nat} {z : Nat -> Value} {ef : EF}
 {y1 y2 y3 y4 y5 y6 y7 y8 y9 : TypeId} {p1 p2 p3 p4 p5 p6 p7 p8 p9 : String} {e1 e2 e3 e4 e5 e6 e7 e8 e9 : Array Edge} {ts ts1 ts2 : Array TypeId} {t1 t2 t3 t4 t5 t6 : Nat} {yg yh ym yn : TypeId}
/-- 's.F = v', where v is known -/
theorem put_region {tv T k i o yt : Nat} (hat : σ.lay.at i = some (o, ty)) (hok : σ.okAt i o ty = true) (hf : fieldOff P T k = some o) (hsz : sized P yt ty.size = true)
  (hs : (Γ.free t1 && Γ.free t2 && Γ.free t3 && Γ.free t4 && t1 != tv && t2 != t1 && t3 != t2 && t4 != t2 && t1 != σ.s && t2 != σ.s && t3 != σ.s && t4 != σ.s) = true)
  {x : Cx} {F : Nat -> Prop} {blk off : Nat} {v : SV} {s : RS} {a : Act} {w : World} {u : Tr} (hA : Amb Γ x s a w) (hp : Act.get a σ.s = .pointer (some ⟨blk, off, none⟩)) (hC : Cur σ F blk off v w) (hS : Sep x F blk w) (hV : RepV w F ty (Act.get a tv) u) :
  (Code.region id #[⟨some t1, .move (.tmp σ.s), y1, p1, e1, none⟩, ⟨some t2, .move (.tmp tv), y2, p2, e2, none⟩, ⟨some t3, .nilCheck (.tmp t1), y3, p3, e3, none⟩,
   ⟨some t4, .fieldAddr T (.tmp t3) k, y4, p4, e4, none⟩, ⟨none, .store yt (.tmp t4) (.tmp t2), y5, p5, e5, none⟩] false).wp P
   (fun e a' w' => e = .normal /\ Amb Γ x s a' w' /\ Cur σ F blk off (v.1.set i u, v.2) w' /\ SameBut (fun t => t = t1 \/ t = t2 \/ t = t3 \/ t = t4) a a' /\ Stp x blk off σ.sz w w') a w := by
 simp only [Bool.and_eq_true, bne_iff_ne] at hs
 obtain ⟨⟨⟨⟨⟨⟨⟨⟨⟨⟨⟨f1, f2⟩, f3⟩, f4⟩, n1⟩, n2⟩, n3⟩, n4⟩, m1⟩, m2⟩, m3⟩, m4⟩ := hs
 refine wp_region_lit ?_
 refine Zv rfl Zm (Zv rfl Zm ?_)
 simp only [Ze]
 rw [Zn n1, hp]
 have z1 := hA.lt f1
 have z2 := hA.lt f2
 have z3 := hA.lt f3
 have z4 := hA.lt f4
 refine Zv rfl (x_nilCheck (q := ⟨blk, off, none⟩) (by rw [Ze, Zn n2, Zq z1])) ?_
 refine Zv rfl (Za hf (b := blk) (o0 := off) (by rw [Ze, Zq (by simp only [Zs]; exact z3)])) ?_
 obtain ⟨C, t, h1, h2, h3, h4⟩ := hC.mem
 simp only [St.okAt, Bool.and_eq_true] at hok
 have hin := Lay.at_in _ _ _ _ _ _ hok.1.1 hat
 have htg : ∀ q, σ.tg = some q -> q < σ.sz /\ (q < o \/ o + ty.size <= q) := fun q hq => by
  have := hok.1.2
  rw [hq] at this
  simpa using this
 have hFb : ∀ k, F k -> k ≠ blk := fun k hk => (hS.apart k hk).2
 have hsb : ∀ u1 u2 u3 u4, SameBut (fun t => t = t1 \/ t = t2 \/ t = t3 \/ t = t4) a ((((a.put (some t1) u1).put (some t2) u2).put (some t3) u3).put (some t4) u4) := fun u1 u2 u3 u4 =>
  ((((SameBut.refl a).put (.inl rfl) _).put (.inr (.inl rfl)) _).put (.inr (.inr (.inl rfl))) _).put (.inr (.inr (.inr rfl))) _
 have key : ∀ (w2 : World) (C' : Array Value), Mod (only blk) w w2 -> w2.heap[blk]? = some (.cells C' t (0, 0)) -> C'.size = C.size -> (∀ j, j < off + o \/ off + o + ty.size <= j -> C'[j]? = C[j]?) ->
   Rep w F ty (fun j => from' C' off (o + j)) u -> ∀ a2, Amb Γ x s a2 w -> SameBut (fun t => t = t1 \/ t = t2 \/ t = t3 \/ t = t4) a a2 ->
   Amb Γ x s a2 w2 /\ Cur σ F blk off (v.1.set i u, v.2) w2 /\ SameBut (fun t => t = t1 \/ t = t2 \/ t = t3 \/ t = t4) a a2 /\ Stp x blk off σ.sz w w2 := by
  intro w2 C' hm hb hsize hout hrep a2 hA2 hsb2
  refine ⟨hA2.world (hA2.rd.mod hm (fun e => hS.rb e.symm) (fun e => (hS.apart _ hS.src).2 e)) (hA2.err.mod hm (fun e => hS.glob e.symm)), ?_, hsb2, ?_⟩
  ·exact cur_store hok.1.1 htg hat hC hFb hm h1 hb hsize hout hrep
  ·refine ⟨hm.mono fun _ _ e => .inr e, fun D td hD => ?_⟩
   rw [h1] at hD
   obtain ⟨rfl, rfl⟩ : C = D /\ t = td := by simpa using hD
   exact ⟨C', hb, hsize, fun j hj => hout j (by omega)⟩
 have hx2 : Act.get (((((a.put (some t1) (.pointer (some ⟨blk, off, none⟩))).put (some t2) (Act.get a tv)).put (some t3) (.pointer (some ⟨blk, off, none⟩))).put (some t4) (.pointer (some ⟨blk, off + o, none⟩)))) t2 = Act.get a tv := by
  rw [Zn n4, Zn n3, Zq (by simp only [Zs]; exact z2)]
 rcases hV with ⟨hone, hov, hrep⟩ | ⟨rfl, cs, hcs, hn, hall, hrep⟩
 ·rw [hone] at hsz
  have hbo : off + o < C.size := by omega
  refine wpl_skip rfl (x_store1 hsz (b := blk) (o := off + o) (v := Act.get a tv) (u := C[off + o]) (by rw [Ze, Zq (by simp only [Zs]; exact z4)]) (by rw [Ze]; exact hx2) hov
   (by rw [Zc h1]; exact Array.getElem?_eq_getElem hbo) (Zz h1)) (wpList_nil ?_)
  refine ⟨rfl, key _ (C.setIfInBounds (off + o) (Act.get a tv)) ((Mod.refl w).put _ _) (heap_setCell_same h1 _) (by simp) (fun j hj => by rw [Array.getElem?_setIfInBounds_ne (by omega)]) ?_ _ ((((hA.put f1 _).put f2 _).put f3 _).put f4 _) (hsb _ _ _ _)⟩
  refine Rep.congr ty (fun _ => Act.get a tv) _ _ hin.2.2 (fun j hj => ?_) hrep
  have : j = 0 := by omega
  subst this
  exact get_from' (by simp [hbo])
 ·simp only [Ty.size] at hsz hin key
  rw [<- hn] at hsz
  have hthere : w.there blk (off + o) cs.size := fun j hj => by
   rw [Zc h1, Zz h1, Array.getElem?_eq_getElem (by omega)]
   exact ⟨rfl, rfl⟩
  refine wpl_skip rfl (x_storeN hsz (b := blk) (o := off + o) (cs := cs) (by rw [Ze, Zq (by simp only [Zs]; exact z4)]) (by rw [Ze, hx2]; exact hcs) hall hthere) (wpList_nil ?_)
  obtain ⟨C', g1, g2, g3, g4⟩ := heap_setCells (w := w) cs.toList (off + o) C h1
  simp only [Array.length_toList] at g3 g4
  refine ⟨rfl, key _ C' (mod_setCells _ _ _ _) g1 g2 (fun j hj => g4 j (by omega)) ?_ _ ((((hA.put f1 _).put f2 _).put f3 _).put f4 _) (hsb _ _ _ _)⟩
  refine Rep.congr .uuid (from' cs 0) _ _ rfl (fun j hj => ?_) hrep
  simp only [Ty.size] at hj
  have h5 := g3 j (by omega) (by omega)
  refine get_from' ?_
  rw [<- Nat.add_assoc, h5]
  simp [from', show j < cs.size by omega]
/-- what is made of an element that is a struct -/
def structE (f : FT) (z : SV) : EF := fun ver fl s => (f ver fl z s).then fun v s => .ok (.part v.1 v.2) s
end
end Go.Proofs.YtcldbjehliladaaDoor
set_option linter.unusedSimpArgs false
set_option linter.unusedVariables false
namespace Go.Proofs.YtcldbjehliladaaDoor
open Go Go.RowKit
/-- whether a field is null -/
def isNul : Option Tr -> Bool
 | some (.mk n s b l u) => n == 0 && s.isEmpty && b && l.isEmpty && u.isEmpty
 | none => false
def tailR (i : Nat) (e0 : Bool) (n : Int) (ef : RS -> R Tr) (v : SV) (s : RS) : R SV :=
 if s.bad then .early else (elemsR ef n.toNat s).then fun ts s2 => .ok (v.1.set i (if 0 < n then .list ts false else if e0 then .list [] false else .nul), v.2) s2
/-- a list as a field -/
def listF (i : Nat) (rdl : Int -> Bool -> RS -> Tr × RS) (nv : Int -> Int -> Bool) (ef : EF) : FT := fun ver fl v s =>
 if isNul v.1[i]? then tailR i (nv ver (rdl ver fl s).1.N) (rdl ver fl s).1.N (ef ver fl) v (rdl ver fl s).2 else .stuck
/-- a slice without elements: nil, or not -/
def EmptyV (e0 : Bool) (val : Value) (w : World) (F : Nat -> Prop) : Prop :=
 (e0 = false /\ val = .slice none 0 0) \/ (e0 = true /\ ∃ k t, F k /\ val = .slice (some ⟨k, 0, none⟩) 0 0 /\ w.heap[k]? = some (.cells #[] t (0, 0)))
theorem EmptyV.shape {e0 : Bool} {val : Value} {w : World} {F : Nat -> Prop} (h : EmptyV e0 val w F) : ∃ ao, val = .slice ao 0 0 := by
 rcases h with ⟨_, h⟩ | ⟨_, k, t, _, h, _⟩ <;> exact ⟨_, h⟩
theorem EmptyV.mod {e0 : Bool} {val : Value} {w w' : World} {F S : Nat -> Prop} (h : EmptyV e0 val w F) (hm : Mod S w w') (hs : ∀ k, F k -> ¬ S k) : EmptyV e0 val w' F := by
 rcases h with h | ⟨h1, k, t, h2, h3, h4⟩
 ·exact .inl h
 ·exact .inr ⟨h1, k, t, h2, h3, hm.some h4 (hs k h2)⟩
end Go.Proofs.YtcldbjehliladaaDoor
