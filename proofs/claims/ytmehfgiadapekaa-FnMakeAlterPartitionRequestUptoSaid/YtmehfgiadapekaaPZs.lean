/-
  Rules for the code that sets a message's fields (FnMake): one field after another; the whole; the message is made and written.
  A message is made of a tree, and written (FnMake): the functions that set it, and the one that makes it.
  What a field is set to, kind by kind (FnMake).
-/
import Derived.Test.YtmehfgiadapekaaPZo
set_option linter.unusedSimpArgs false
set_option linter.unusedVariables false
namespace Go.Proofs.Ytmehfgiadapekaa
open Go Go.RowKit
mutual
/-- fields that leave no gap -/
def Ty.full : Ty -> Bool
 | .struct lay tg sz => match tg with | some o => lay.full 0 o && (o + 1 == sz) | none => lay.full 0 sz
 | _ => true
def Lay.full : Lay -> Nat -> Nat -> Bool
 | .nil, lo, hi => lo == hi
 | .cons o t r, lo, hi => o == lo && t.full && r.full (o + t.size) hi
end
theorem tagsR_one {w : World} {F : Nat -> Prop} {v : Value} {u : Tags} (h : TagsR w F v u) : v.oneCell' = true := by
 rcases h with ⟨rfl, _⟩ | ⟨r, es, clock, _, rfl, _⟩ <;> rfl
mutual
theorem Rep.ones {w : World} {F : Nat -> Prop} : ∀ (ty : Ty) (c : Nat -> Value) (t : Tr), ty.full = true -> Rep w F ty c t -> ∀ j, j < ty.size -> (c j).oneCell' = true
  | .uuid, c, t, _, h, j, hj => by
    simp only [Rep] at h
    obtain ⟨us, h1, h2, _⟩ := h
    rw [h2 j (by simp only [Ty.size] at hj; omega)]; rfl
  | .struct lay tg sz, c, t, hf, h, j, hj => by
    simp only [Rep] at h
    obtain ⟨vs, u, h1, h2, _⟩ := h
    simp only [Ty.size] at hj
    cases tg with
    | none => exact RepL.ones lay 0 sz c vs (by simpa [Ty.full] using hf) h1 j (by omega) hj
    | some o =>
      simp only [Ty.full, Bool.and_eq_true, beq_iff_eq] at hf
      by_cases hjo : j < o
      · exact RepL.ones lay 0 o c vs hf.1 h1 j (by omega) hjo
      · have : j = o := by omega
        subst this
        exact tagsR_one h2
  | .int k, c, t, _, h, j, hj => by simp only [Ty.size] at hj; have : j = 0 := by omega
                                    subst this; exact (rep_one rfl h).1.2
  | .bool, c, t, _, h, j, hj => by simp only [Ty.size] at hj; have : j = 0 := by omega
                                   subst this; exact (rep_one rfl h).1.2
  | .float, c, t, _, h, j, hj => by simp only [Ty.size] at hj; have : j = 0 := by omega
                                    subst this; exact (rep_one rfl h).1.2
  | .str, c, t, _, h, j, hj => by simp only [Ty.size] at hj; have : j = 0 := by omega
                                  subst this; exact (rep_one rfl h).1.2
  | .pstr, c, t, _, h, j, hj => by simp only [Ty.size] at hj; have : j = 0 := by omega
                                   subst this; exact (rep_one rfl h).1.2
  | .bytes, c, t, _, h, j, hj => by simp only [Ty.size] at hj; have : j = 0 := by omega
                                    subst this; exact (rep_one rfl h).1.2
  | .list e sz, c, t, _, h, j, hj => by simp only [Ty.size] at hj; have : j = 0 := by omega
                                        subst this; exact (rep_one rfl h).1.2
  | .pstruct lay tg sz, c, t, _, h, j, hj => by simp only [Ty.size] at hj; have : j = 0 := by omega
                                                subst this; exact (rep_one rfl h).1.2
theorem RepL.ones {w : World} {F : Nat -> Prop} : ∀ (lay : Lay) (lo hi : Nat) (c : Nat -> Value) (vs : List Tr), lay.full lo hi = true -> RepL w F lay c vs -> ∀ j, lo <= j -> j < hi -> (c j).oneCell' = true
 | .nil, lo, hi, c, vs, hf, _, j, h1, h2 => by simp [Lay.full] at hf; omega
 | .cons o t r, lo, hi, c, vs, hf, h, j, h1, h2 => by
  simp only [Lay.full, Bool.and_eq_true, beq_iff_eq] at hf
  obtain ⟨⟨rfl, hft⟩, hfr⟩ := hf
  simp only [RepL] at h
  obtain ⟨v, vs', _, k1, k2⟩ := h
  by_cases hj : j < o + t.size
  ·have := Rep.ones t _ v hft k1 (j - o) (by omega)
   rwa [show o + (j - o) = j by omega] at this
  ·exact RepL.ones r (o + t.size) hi c vs' hfr k2 j (by omega) h2
end
theorem take_set_succ {α : Type} : ∀ (l : List α) (i : Nat) (u : α), i < l.length -> (l.set i u).take (i + 1) = l.take i ++ [u]
 | [], i, u, h => by simp at h
 | x :: l, 0, u, h => by simp
 | x :: l, i + 1, u, h => by
  simp only [List.set_cons_succ, List.take_succ_cons, List.cons_append]
  rw [take_set_succ l i u (by simpa using h)]
/-- what is left of the code that sets the fields: what it comes to -/
def Rest (P : Program) (Γ : Fl) (σ : St) (K : Fx -> Exit -> Act -> World -> List Tr -> Prop) (c : Code) (i j : Nat) (fs : List FD) : Prop :=
 ∀ (x : Fx) (v : SV) (a : Act) (w : World), FA Γ x a w -> Cur σ x.F x.blk 0 v w -> v.1.length = i + fs.length -> (∀ k (h : k < fs.length), v.1[i + k]? = some (zeroW fs[k])) -> goksW fs j x.g -> UOk x.g.U -> c.wp P (fun e a' w' => K x e a' w' (v.1.take i ++ fillsW fs j x.g)) a w
section
variable {P : Program} {Γ : Fl} {σ : St} {K : Fx -> Exit -> Act -> World -> List Tr -> Prop} {c c1 c2 : Code} {i j ot : Nat} {f : FD} {fs : List FD}
theorem rest_cons (h1 : Fst P Γ σ c1 i (zeroW f) (fun g => fillW f (g.L.getD j .zero)) (fun g => gokW f (g.L.getD j .zero))) (h2 : Rest P Γ σ K c2 (i + 1) (j + 1) fs) : Rest P Γ σ K (.seq c1 c2) i j (f :: fs) := by
 intro x v a w hA hC hl hz hg hU
 simp only [goksW] at hg
 simp only [List.length_cons] at hl
 have hz0 := hz 0 (by simp)
 simp only [Nat.add_zero, List.getElem_cons_zero] at hz0
 refine wp_seq (wp_mono (h1 x v a w hA hC hz0 hg.1) ?_)
 rintro e a1 w1 ⟨rfl, hA1, hC1⟩
 refine wp_mono (h2 x _ a1 w1 hA1 hC1 (by simp [hl]; omega) (fun k hk => ?_) hg.2 hU) ?_
 ·show (v.1.set i _)[i + 1 + k]? = _
  rw [List.getElem?_set_ne (by omega)]
  have := hz (k + 1) (by simp; omega)
  rw [show i + 1 + k = i + (k + 1) by omega, this]
  rfl
 ·intro e a2 w2 hK
  rw [show v.1.take i ++ fillsW (f :: fs) j x.g = (v.1.set i (fillW f (x.g.L.getD j .zero))).take (i + 1) ++ fillsW fs (j + 1) x.g by
   rw [take_set_succ v.1 i _ (by omega)]; simp [fillsW]]
  exact hK
theorem fst_mono {z z' : Tr} {F F' : Tr -> Tr} {ok ok' : Tr -> Prop} (h : Fst P Γ σ c i z F ok) (hz : z' = z) (hf : ∀ g, ok' g -> F g = F' g) (hok : ∀ g, ok' g -> ok g) : Fst P Γ σ c i z' F' ok' := by
 intro x v a w hA hC hz0 hokg
 have := h x v a w hA hC (hz ▸ hz0) (hok _ hokg)
 rw [hf _ hokg] at this
 exact this
/-- what setting the fields comes to -/
def KF (σ : St) (ot : Nat) : Fx -> Exit -> Act -> World -> List Tr -> Prop := fun x e a' w' vs => e = .normal /\ a'.defers = [] /\ Mod none' x.w0 w' /\ Cur { σ with tg := some ot } x.F x.blk 0 (vs, x.g.U) w'
theorem cur_notag (htg : σ.tg = none) {F : Nat -> Prop} {b o : Nat} {v : SV} {w : World} (h : Cur σ F b o v w) : Cur { σ with tg := none } F b o (v.1, []) w := by
 obtain ⟨C, t, h1, h2, h3, _⟩ := h.mem
 exact ⟨C, t, h1, h2, h3, rfl⟩
theorem rest_tags (htg : σ.tg = none) (h : TagsSet P Γ σ ot c) : Rest P Γ σ (KF σ ot) c i j [] := by
 intro x v a w hA hC hl _ _ hU
 refine wp_mono (h x v.1 a w hA (cur_notag htg hC) hU) ?_
 rintro e a1 w1 ⟨rfl, hA1, hC1⟩
 have hl' : v.1.length = i := by simpa using hl
 rw [show v.1.take i ++ fillsW [] j x.g = v.1 by simp [fillsW, <- hl']]
 exact ⟨rfl, hA1.defers, hA1.mod, hC1⟩
/-- the struct is given back -/
def KM (σ : St) (ot r : Nat) : Fx -> Exit -> Act -> World -> List Tr -> Prop := fun x e a' w' vs => e = .ret /\ a'.defers = [] /\ Mod none' x.w0 w' /\ Mod none' x.w1 w' /\ Act.get a' r = .pointer (some ⟨x.rb, 0, none⟩) /\
 ∃ (C : Array Value) (t : Nat), w'.heap[x.rb]? = some (.cells C t (0, 0)) /\ C.size = σ.sz /\ C.all (·.oneCell') = true /\ Rep w' (fun k => k < x.w0.heap.size \/ x.e <= k) (.struct σ.lay (some ot) σ.sz) (from' C 0) (.part vs x.g.U)
theorem rest_ret {d r T id : Nat} {y1 y2 : TypeId} {p1 p2 : String} {e1 e2 : Array Edge} (htg : σ.tg = none) (h : TagsSet P Γ σ ot c) (hr : Γ.r = some r) (hmT : many P T σ.sz = true) (hsT : sized P T σ.sz = true) (hfull : (Ty.struct σ.lay (some ot) σ.sz).full = true) (hok : (Ty.struct σ.lay (some ot) σ.sz).ok = true) (hrn : Γ.rn = σ.sz) (hs : Γ.free d = true) :
  Rest P Γ σ (KM σ ot r) (.seq c (.seq (.region id #[⟨some d, .load T (.tmp Γ.s), y1, p1, e1, none⟩, ⟨none, .store T (.tmp r) (.tmp d), y2, p2, e2, none⟩] false) .ret)) i j [] := by
 intro x v a w hA hC hl _ _ hU
 refine wp_seq (wp_mono (h x v.1 a w hA (cur_notag htg hC) hU) ?_)
 rintro e a1 w1 ⟨rfl, hA1, hC1⟩
 have hl' : v.1.length = i := by simpa using hl
 rw [show v.1.take i ++ fillsW [] j x.g = v.1 by simp [fillsW, <- hl']]
 obtain ⟨C, t, h1, h2, h3, h4⟩ := hC1.mem
 obtain ⟨r1, r2, r3, r6, Cr, tr, r4, r5⟩ := hA1.res r hr
 have hsz : C.size ≥ σ.sz := by have : 0 + σ.sz <= C.size := h2; omega
 obtain ⟨cs, hcs⟩ : ∃ cs, cs = (C.toList.take σ.sz).toArray := ⟨_, rfl⟩
 have hcsz : cs.size = σ.sz := by rw [hcs]; simp; omega
 have hcsj : ∀ j, j < σ.sz -> from' cs 0 j = from' C 0 j := fun j hj => by
  rw [hcs]
  simp only [from', Nat.zero_add, Array.getD_eq_getD_getElem?, List.getElem?_toArray, List.getElem?_take, if_pos hj, Array.getElem?_toList]
 have hrep : Rep w1 x.F (.struct σ.lay (some ot) σ.sz) (from' cs 0) (.part v.1 x.g.U) := by
  refine Rep.congr _ (from' C 0) _ _ hok (fun j hj => hcsj j hj) ?_
  simp only [Rep]
  exact ⟨v.1, x.g.U, h3, h4, rfl⟩
 have hall : cs.all (·.oneCell') = true := by
  rw [Array.all_eq_true]
  intro q hq
  have := Rep.ones _ _ _ hfull hrep q (by simp only [Ty.size]; omega)
  simpa [from', hq] using this
 refine wp_seq (wp_region_lit (Zv rfl (x_loadN (cs := cs.toList) (b := x.blk) (o := 0) (by rw [Array.length_toList, hcsz]; exact hmT) (by rw [Ze]; exact hA1.ptr) (fun q u hu => ?_)) ?_))
 ·rw [Zc h1, Nat.zero_add]
  rw [hcs] at hu
  simp only [List.getElem?_take] at hu
  split at hu
  ·rw [Array.getElem?_toList] at hu; exact hu
  ·cases hu
 have hd : Γ.r ≠ some d := (Fl.free_all hs).2.2.2
 have r5' : Cr.size = σ.sz := r5.trans hrn
 refine wpl_skip rfl (x_storeN (cs := cs) (b := x.rb) (o := 0) (by rw [hcsz]; exact hsT) ?_ ?_ hall ?_) (wpList_nil (wp_ret ?_))
 ·rw [Ze, Zn (fun e => hd (by rw [hr, e]))]; exact r1
 ·rw [Ze, Zq (hA1.lt hs)]
 ·intro j hj
  rw [Zc r4, Zz r4, Nat.zero_add, Array.getElem?_eq_getElem (by omega)]
  exact ⟨rfl, rfl⟩
 have k2 := put_tree (cs := cs) r4 (by omega)
 have m8 := mod_setCells x.rb w1 0 cs.toList
 have hmz := hA1.we
 refine ⟨rfl, ?_, hA1.mod.trans' m8 (fun _ _ f => f) (fun q hq e => ?_), hA1.m1.1.trans' m8 (fun _ _ f => f) (fun q hq e => ?_), ?_, cs, tr, k2, hcsz, hall, ?_⟩
 ·simp only [Zd]; exact hA1.defers
 ·have e' : q = x.rb := e
  omega
 ·have e' : q = x.rb := e
  have := hA1.m1.2.2.2 r hr
  omega
 ·rw [Zo, Zn (fun e => hd (by rw [hr, e]))]; exact r1
 ·exact hrep.mod m8 (fun k hk e => by have e' : k = x.rb := e; rcases hk.1 with h | h <;> omega) (fun k hk => hk.1)
end
end Go.Proofs.Ytmehfgiadapekaa
set_option linter.unusedSimpArgs false
set_option linter.unusedVariables false
namespace Go.Proofs.Ytmehfgiadapekaa
open Go Go.RowKit
/-- a function that sets a message's fields -/
def FillC (P : Program) (f : FuncId) (σ : St) (ot : Nat) (fs : List FD) : Prop := ∀ (w0 w : World) (cs : Array Value) (y : Tr) (blk : Nat) (ver : Int), Mod none' w0 w -> cs.size = 5 -> TreeI w0 (from' cs 0) y -> w0.heap.size <= blk -> Cur { σ with tg := some ot } none' blk 0 (.num ver :: zerosW fs, []) w -> goksW fs 0 y -> UOk y.U ->
 Calls P f #[.pointer (some ⟨blk, 0, none⟩), .agg cs] w fun e w' => ∃ r F, e = .returned r /\ Mod none' w0 w' /\ Cur { σ with tg := some ot } F blk 0 (.num ver :: fillsW fs 0 y, y.U) w'
section
variable {P : Program} {σ : St} {fn : Func} {f ot N TT T i0 i1 : Nat} {rest : Code} {fs : List FD} {y1 y2 y3 : TypeId} {p1 p2 p3 : String} {e1 e2 e3 : Array Edge}
theorem tags_none {w : World} {v : Value} (h : TagsR w none' v []) : v = .map none := by
 rcases h with ⟨h, _⟩ | ⟨r, _, _, h, _⟩
 ·exact h
 ·exact h.elim
theorem fill_top (hf : P.funcs[f]? = some fn) (hN : fn.ntmps = N) (hres : fn.results = #[]) (htg : σ.tg = none) (h4 : 4 <= N) (hbody : fn.body = some (.seq (.region i0 #[⟨some 3, .box TT (.tmp 1), y1, p1, e1, none⟩] false) rest)) (hot : ot < σ.sz)
  (hrest : Rest P ⟨N, 3, 0, some ot, none, 0⟩ σ (KF σ ot) rest 1 0 fs) : FillC P f σ ot fs := by
 intro w0 w cs y blk ver hm0 hcs hT hblk hC hg hU
 refine calls_of_wp hf hbody ?_
 rw [hN]
 refine wp_act (fun a : Act => Act.get a 0 = .pointer (some ⟨blk, 0, none⟩) /\ Act.get a 1 = .agg cs /\ a.tmps.size = N /\ a.defers = []) ⟨by rw [Zj _ _ _ (by simp)]; rfl, by rw [Zj _ _ _ (by simp)]; rfl, by simp; omega, rfl⟩ ?_
 rintro a ⟨a0, a1, aN, ad⟩
 refine wp_seq (wp_region_lit (Zv rfl x_box (wpList_nil ?_)))
 rw [show a.eval (.tmp 1) = .agg cs from a1]
 obtain ⟨r1, m1⟩ := box_tree (w := w) (cs := cs) TT
 generalize w.alloc (.cells (Value.agg cs).cells TT) = w1 at *
 obtain ⟨C, t, h1, h2, h3, h4'⟩ := hC.mem
 have hbl := lt_of_block h1
 have hs0 := hm0.size
 have hs1 := m1.size
 have hFA : FA ⟨N, 3, 0, some ot, none, 0⟩ ⟨blk, w.heap.size, cs, y, w0, w1.heap.size, 0, w0⟩ (a.put (some 3) (.pointer (some ⟨w.heap.size, 0, none⟩))) w1 :=
  ⟨(Zs _ _ _).trans aN, (Zd _ _ _).trans ad, Zq (by omega), (Zn (d := 3) (t := 0) (by decide)).trans a0, ⟨_, r1⟩, hcs, hT, hm0.trans m1, ⟨hblk, hs0, by show blk ≠ w.heap.size; omega⟩, Nat.le_refl _, fun q hq => by
   obtain rfl : ot = q := by simpa using hq
   refine ⟨C, t, m1.some h1 (fun f => f), ?_⟩
   have hv := tags_none h4'
   have hlt : 0 + ot < C.size := by have : 0 + σ.sz <= C.size := h2; omega
   rw [Array.getElem?_eq_getElem hlt, <- hv]
   simp [from', show ot < C.size by omega], by show w0.heap.size <= w1.heap.size; omega, fun q hq => (by cases hq), hm0.trans m1, hblk, by show w0.heap.size <= w1.heap.size; omega, fun q hq => (by cases hq)⟩
 have hC1 : Cur σ (Fx.F ⟨blk, w.heap.size, cs, y, w0, w1.heap.size, 0, w0⟩) blk 0 (.num ver :: zerosW fs, []) w1 := by
  refine ⟨C, t, m1.some h1 (fun f => f), h2, h3.mod m1 (fun _ f => f.elim) (fun _ f => f.elim), ?_⟩
  rw [htg]
 refine wp_mono (hrest _ (.num ver :: zerosW fs, []) _ w1 hFA hC1 (by simp [zerosW_length]; omega) (fun k hk => ?_) hg hU) ?_
 ·show (Tr.num ver :: zerosW fs)[1 + k]? = _
  rw [show 1 + k = k + 1 by omega, List.getElem?_cons_succ]
  exact zerosW_at fs k hk
 rintro e a2 w2 ⟨rfl, g1, g2, g3⟩
 exact ⟨g1, .tuple #[], by simp [results, hres], .tuple #[], _, rfl, g2, by simpa using g3⟩
/-- a function that makes a struct within -/
theorem make_top (hf : P.funcs[f]? = some fn) (hN : fn.ntmps = N) (hres : fn.results = #[.cell 2 T]) (htg : σ.tg = none) (h4 : 4 <= N) (hbody : fn.body = some (.seq (.region i0 #[⟨some 1, .box TT (.tmp 0), y1, p1, e1, none⟩, ⟨some 2, .alloc T, y2, p2, e2, none⟩] false) (.seq (.region i1 #[⟨some 3, .alloc T, y3, p3, e3, none⟩] false) rest)))
  (hot : ot < σ.sz) {z : Value} (hz : zeroOf P T = some z) (hzs : z.cells.size = σ.sz) (hz0 : ∀ w F, RepL w F σ.lay (from' z.cells 0) (zerosW fs)) (hzt : z.cells[ot]? = some (.map none)) (hmT : many P T σ.sz = true)
  (hrest : Rest P ⟨N, 1, 3, some ot, some 2, σ.sz⟩ σ (KM σ ot 2) rest 0 0 fs) : ValC P f (.struct σ.lay (some ot) σ.sz) (fun y => .part (fillsW fs 0 y) y.U) (fun y => goksW fs 0 y /\ UOk y.U) := by
 rintro w0 w cs y hm0 hcs hT ⟨hg, hU⟩
 refine calls_of_wp hf hbody ?_
 rw [hN]
 refine wp_act (fun a : Act => Act.get a 0 = .agg cs /\ a.tmps.size = N /\ a.defers = []) ⟨by rw [Zj _ _ _ (by simp)]; rfl, by simp; omega, rfl⟩ ?_
 rintro a ⟨a0, aN, ad⟩
 refine wp_seq (wp_region_lit (Zv rfl x_box (Zv rfl (x_alloc hz) (wpList_nil ?_))))
 rw [show a.eval (.tmp 0) = .agg cs from a0]
 obtain ⟨r1, m1⟩ := box_tree (w := w) (cs := cs) TT
 generalize w.alloc (.cells (Value.agg cs).cells TT) = w1 at *
 have r2 := Zh w1 (.cells z.cells T)
 have m2 : Mod none' w1 (w1.alloc (.cells z.cells T)) := (Mod.refl w1).alloc _
 have z2 : (w1.alloc (.cells z.cells T)).heap.size = w1.heap.size + 1 := by simp
 generalize w1.alloc (.cells z.cells T) = w2 at *
 refine wp_seq (wp_region_lit (Zv rfl (x_alloc hz) (wpList_nil ?_)))
 have r3 := Zh w2 (.cells z.cells T)
 have m3 : Mod none' w2 (w2.alloc (.cells z.cells T)) := (Mod.refl w2).alloc _
 have z3 : (w2.alloc (.cells z.cells T)).heap.size = w2.heap.size + 1 := by simp
 generalize w2.alloc (.cells z.cells T) = w3 at *
 have hb1 := lt_of_block r1
 have hs0 := hm0.size
 have m03 : Mod none' w0 w3 := ((hm0.trans m1).trans m2).trans m3
 have hlt : 0 + ot < z.cells.size := by omega
 have hFA : FA ⟨N, 1, 3, some ot, some 2, σ.sz⟩ ⟨w2.heap.size, w.heap.size, cs, y, w0, w3.heap.size, w1.heap.size, w⟩ (((a.put (some 1) (.pointer (some ⟨w.heap.size, 0, none⟩))).put (some 2) (.pointer (some ⟨w1.heap.size, 0, none⟩))).put (some 3) (.pointer (some ⟨w2.heap.size, 0, none⟩))) w3 :=
  ⟨by simp only [Zs]; exact aN, by simp only [Zd]; exact ad, by show Act.get _ 1 = _; rw [Zn (d := 3) (t := 1) (by decide), Zn (d := 2) (t := 1) (by decide), Zq (by omega)], by show Act.get _ 3 = _; rw [Zq (by simp only [Zs]; omega)], ⟨_, (m2.trans m3).some r1 (fun f => f)⟩, hcs, hT, m03, ⟨by show w0.heap.size <= w2.heap.size; omega, hs0, by show w2.heap.size ≠ w.heap.size; omega⟩, Nat.le_refl _, fun q hq => by
   obtain rfl : ot = q := by simpa using hq
   exact ⟨z.cells, T, r3, by rw [Nat.zero_add]; exact hzt⟩, by show w0.heap.size <= w3.heap.size; omega, fun q hq => by
   obtain rfl : 2 = q := by simpa using hq
   refine ⟨by rw [Zn (d := 3) (t := 2) (by decide), Zq (by simp only [Zs]; omega)], by show w1.heap.size < w3.heap.size; omega, by show w1.heap.size ≠ w2.heap.size; omega, by show w0.heap.size <= w1.heap.size; omega, z.cells, T, m3.some r2 (fun f => f), hzs⟩, (m1.trans m2).trans m3, by show w.heap.size <= w2.heap.size; omega, by show w.heap.size <= w3.heap.size; omega, fun q hq => by show w.heap.size <= w1.heap.size; omega⟩
 have hC1 : Cur σ (Fx.F ⟨w2.heap.size, w.heap.size, cs, y, w0, w3.heap.size, w1.heap.size, w⟩) w2.heap.size 0 (zerosW fs, []) w3 := by
  refine ⟨z.cells, T, r3, by omega, hz0 _ _, ?_⟩
  rw [htg]
 refine wp_mono (hrest _ (zerosW fs, []) _ w3 hFA hC1 (by simp [zerosW_length]) (fun k hk => ?_) hg hU) ?_
 ·show (zerosW fs)[0 + k]? = _
  rw [Nat.zero_add]
  exact zerosW_at fs k hk
 rintro e a2 w4 ⟨rfl, g1, g2, hmz, g3, C, t, g4, g5, g6, g7⟩
 refine bodyPost_ret (results_cellN hres (b := w1.heap.size) (o := 0) (cs := C.toList) g3 (by rw [Array.length_toList, g5]; exact hmT) (fun j v hv => by rw [Zc g4, Nat.zero_add]; simpa using hv)) g1 ⟨_, rfl, hmz, .inr ⟨C, by simp, g5, g6, ?_⟩⟩
 exact g7.mod (Mod.refl (S := none') w4) (fun _ _ f => f) (fun k hk => hk.imp id fun h => by have : w3.heap.size <= k := h; omega)
end
end Go.Proofs.Ytmehfgiadapekaa
set_option linter.unusedSimpArgs false
set_option linter.unusedVariables false
namespace Go.Proofs.Ytmehfgiadapekaa
open Go Go.RowKit
theorem iat_C : AtC Try.prog 127 := @iat_c
section
variable {fr to nl g d of : Int} {sub : List FD} {y : Tr}
theorem fk_bool : Tr.ofBool (decide (y.N % 2 = 1)) = fillW (.mk 0 fr to nl g d of sub) y := by simp [fillW, fillL, expL]
theorem fk_i8 : Tr.num (IntKind.i8.wrap y.N) = fillW (.mk 1 fr to nl g d of sub) y := by simp [fillW, fillL, expL]
theorem fk_i16 : Tr.num (IntKind.i16.wrap y.N) = fillW (.mk 2 fr to nl g d of sub) y := by simp [fillW, fillL, expL]
theorem fk_i32 : Tr.num (IntKind.i32.wrap y.N) = fillW (.mk 3 fr to nl g d of sub) y := by simp [fillW, fillL, expL, wrap32_eq]
theorem fk_i64 : Tr.num (wrap64 y.N) = fillW (.mk 4 fr to nl g d of sub) y := by simp [fillW, fillL, expL]
theorem fk_u16 : Tr.num (IntKind.u16.wrap y.N) = fillW (.mk 5 fr to nl g d of sub) y := by simp [fillW, fillL, expL, IntKind.wrap, IntKind.bits, IntKind.signed]
theorem fk_uuid : Tr.oct (uu y.S) = fillW (.mk 7 fr to nl g d of sub) y := by simp [fillW, fillL, expL]
theorem fk_str (h : nl < 0) : Tr.oct y.S = fillW (.mk 8 fr to nl g d of sub) y := by simp [fillW, fillL, show ¬ 0 <= nl by omega]
theorem fk_pstr (h : 0 <= nl) : (if y.Z = true then Tr.nul else .oct y.S) = fillW (.mk 8 fr to nl g d of sub) y := by simp [fillW, fillL, h]
theorem fk_bytes : (if y.Z = true then Tr.octs [] true else .octs y.S false) = fillW (.mk 9 fr to nl g d of sub) y := by simp [fillW, fillL]
theorem fk_part (h : nl < 0) : Tr.part (fillsW sub 0 y) y.U = fillW (.mk 10 fr to nl g d of sub) y := by simp [fillW, show ¬ 0 <= nl by omega]
theorem fk_list : (if y.Z = true then Tr.nul else .list (y.L.map fun x => Tr.part (fillsW sub 0 x) x.U) false) = fillW (.mk 11 fr to nl g d 10 sub) y := by simp [fillW]
theorem fo_text (h : gokW (.mk 8 fr to nl g d of sub) y) : y.S.length <= 32767 := by simp [gokW, gokL] at h; exact h
theorem fo_bytes (h : gokW (.mk 9 fr to nl g d of sub) y) : y.S.length <= 32767 := by simp [gokW, gokL] at h; exact h
theorem fo_part (h : gokW (.mk 10 fr to nl g d of sub) y) : goksW sub 0 y /\ UOk y.U := by simpa [gokW] using h
theorem fo_list (h : gokW (.mk 11 fr to nl g d 10 sub) y) : y.L.length <= 32767 /\ ∀ x ∈ y.L, goksW sub 0 x /\ UOk x.U := by simpa [gokW] using h
end
end Go.Proofs.Ytmehfgiadapekaa
