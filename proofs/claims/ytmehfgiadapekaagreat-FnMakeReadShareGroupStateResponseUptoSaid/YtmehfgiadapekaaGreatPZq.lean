/-
  Rules for the code that sets a message's fields (FnMake): one field after another; the whole; the message is made and written.
-/
import Derived.Test.YtmehfgiadapekaaGreatPZo
set_option linter.unusedSimpArgs false
set_option linter.unusedVariables false
namespace Go.Proofs.YtmehfgiadapekaaGreat
open Go Go.RowKit
mutual
/-- fields that leave no gap -/
def Ty.full : Ty -> Bool
 | .struct lay tg sz => match tg with | some o => lay.full 0 o && (o + 1 == sz) | none => lay.full 0 sz
 | _ => true
def Lay.full : Lay -> Nat -> Nat -> Bool
 | .nil, lo, hi => lo == hi
 | .cons o t r, lo, hi => o == lo && t.full && r.full (o + t.size) hi
end
theorem tagsR_one {w : World} {F : Nat -> Prop} {v : Value} {u : Tags} (h : TagsR w F v u) : v.oneCell' = true := by
 rcases h with ⟨rfl, _⟩ | ⟨r, es, clock, _, rfl, _⟩ <;> rfl
mutual
theorem Rep.ones {w : World} {F : Nat -> Prop} : ∀ (ty : Ty) (c : Nat -> Value) (t : Tr), ty.full = true -> Rep w F ty c t -> ∀ j, j < ty.size -> (c j).oneCell' = true
  | .uuid, c, t, _, h, j, hj => by
    simp only [Rep] at h
    obtain ⟨us, h1, h2, _⟩ := h
    rw [h2 j (by simp only [Ty.size] at hj; omega)]; rfl
  | .struct lay tg sz, c, t, hf, h, j, hj => by
    simp only [Rep] at h
    obtain ⟨vs, u, h1, h2, _⟩ := h
    simp only [Ty.size] at hj
    cases tg with
    | none => exact RepL.ones lay 0 sz c vs (by simpa [Ty.full] using hf) h1 j (by omega) hj
    | some o =>
      simp only [Ty.full, Bool.and_eq_true, beq_iff_eq] at hf
      by_cases hjo : j < o
      · exact RepL.ones lay 0 o c vs hf.1 h1 j (by omega) hjo
      · have : j = o := by omega
        subst this
        exact tagsR_one h2
  | .int k, c, t, _, h, j, hj => by simp only [Ty.size] at hj; have : j = 0 := by omega
                                    subst this; exact (rep_one rfl h).1.2
  | .bool, c, t, _, h, j, hj => by simp only [Ty.size] at hj; have : j = 0 := by omega
                                   subst this; exact (rep_one rfl h).1.2
  | .float, c, t, _, h, j, hj => by simp only [Ty.size] at hj; have : j = 0 := by omega
                                    subst this; exact (rep_one rfl h).1.2
  | .str, c, t, _, h, j, hj => by simp only [Ty.size] at hj; have : j = 0 := by omega
                                  subst this; exact (rep_one rfl h).1.2
  | .pstr, c, t, _, h, j, hj => by simp only [Ty.size] at hj; have : j = 0 := by omega
                                   subst this; exact (rep_one rfl h).1.2
  | .bytes, c, t, _, h, j, hj => by simp only [Ty.size] at hj; have : j = 0 := by omega
                                    subst this; exact (rep_one rfl h).1.2
  | .list e sz, c, t, _, h, j, hj => by simp only [Ty.size] at hj; have : j = 0 := by omega
                                        subst this; exact (rep_one rfl h).1.2
  | .pstruct lay tg sz, c, t, _, h, j, hj => by simp only [Ty.size] at hj; have : j = 0 := by omega
                                                subst this; exact (rep_one rfl h).1.2
theorem RepL.ones {w : World} {F : Nat -> Prop} : ∀ (lay : Lay) (lo hi : Nat) (c : Nat -> Value) (vs : List Tr), lay.full lo hi = true -> RepL w F lay c vs -> ∀ j, lo <= j -> j < hi -> (c j).oneCell' = true
 | .nil, lo, hi, c, vs, hf, _, j, h1, h2 => by simp [Lay.full] at hf; omega
 | .cons o t r, lo, hi, c, vs, hf, h, j, h1, h2 => by
  simp only [Lay.full, Bool.and_eq_true, beq_iff_eq] at hf
  obtain ⟨⟨rfl, hft⟩, hfr⟩ := hf
  simp only [RepL] at h
  obtain ⟨v, vs', _, k1, k2⟩ := h
  by_cases hj : j < o + t.size
  ·have := Rep.ones t _ v hft k1 (j - o) (by omega)
   rwa [show o + (j - o) = j by omega] at this
  ·exact RepL.ones r (o + t.size) hi c vs' hfr k2 j (by omega) h2
end
theorem take_set_succ {α : Type} : ∀ (l : List α) (i : Nat) (u : α), i < l.length -> (l.set i u).take (i + 1) = l.take i ++ [u]
 | [], i, u, h => by simp at h
 | x :: l, 0, u, h => by simp
 | x :: l, i + 1, u, h => by
  simp only [List.set_cons_succ, List.take_succ_cons, List.cons_append]
  rw [take_set_succ l i u (by simpa using h)]
/-- what is left of the code that sets the fields: what it comes to -/
def Rest (P : Program) (Γ : Fl) (σ : St) (K : Fx -> Exit -> Act -> World -> List Tr -> Prop) (c : Code) (i j : Nat) (fs : List FD) : Prop :=
 ∀ (x : Fx) (v : SV) (a : Act) (w : World), FA Γ x a w -> Cur σ x.F x.blk 0 v w -> v.1.length = i + fs.length -> (∀ k (h : k < fs.length), v.1[i + k]? = some (zeroW fs[k])) -> goksW fs j x.g -> UOk x.g.U -> c.wp P (fun e a' w' => K x e a' w' (v.1.take i ++ fillsW fs j x.g)) a w
section
variable {P : Program} {Γ : Fl} {σ : St} {K : Fx -> Exit -> Act -> World -> List Tr -> Prop} {c c1 c2 : Code} {i j ot : Nat} {f : FD} {fs : List FD}
theorem rest_cons (h1 : Fst P Γ σ c1 i (zeroW f) (fun g => fillW f (g.L.getD j .zero)) (fun g => gokW f (g.L.getD j .zero))) (h2 : Rest P Γ σ K c2 (i + 1) (j + 1) fs) : Rest P Γ σ K (.seq c1 c2) i j (f :: fs) := by
 intro x v a w hA hC hl hz hg hU
 simp only [goksW] at hg
 simp only [List.length_cons] at hl
 have hz0 := hz 0 (by simp)
 simp only [Nat.add_zero, List.getElem_cons_zero] at hz0
 refine wp_seq (wp_mono (h1 x v a w hA hC hz0 hg.1) ?_)
 rintro e a1 w1 ⟨rfl, hA1, hC1⟩
 refine wp_mono (h2 x _ a1 w1 hA1 hC1 (by simp [hl]; omega) (fun k hk => ?_) hg.2 hU) ?_
 ·show (v.1.set i _)[i + 1 + k]? = _
  rw [List.getElem?_set_ne (by omega)]
  have := hz (k + 1) (by simp; omega)
  rw [show i + 1 + k = i + (k + 1) by omega, this]
  rfl
 ·intro e a2 w2 hK
  rw [show v.1.take i ++ fillsW (f :: fs) j x.g = (v.1.set i (fillW f (x.g.L.getD j .zero))).take (i + 1) ++ fillsW fs (j + 1) x.g by
   rw [take_set_succ v.1 i _ (by omega)]; simp [fillsW]]
  exact hK
theorem fst_mono {z z' : Tr} {F F' : Tr -> Tr} {ok ok' : Tr -> Prop} (h : Fst P Γ σ c i z F ok) (hz : z' = z) (hf : ∀ g, ok' g -> F g = F' g) (hok : ∀ g, ok' g -> ok g) : Fst P Γ σ c i z' F' ok' := by
 intro x v a w hA hC hz0 hokg
 have := h x v a w hA hC (hz ▸ hz0) (hok _ hokg)
 rw [hf _ hokg] at this
 exact this
/-- what setting the fields comes to -/
def KF (σ : St) (ot : Nat) : Fx -> Exit -> Act -> World -> List Tr -> Prop := fun x e a' w' vs => e = .normal /\ a'.defers = [] /\ Mod none' x.w0 w' /\ Cur { σ with tg := some ot } x.F x.blk 0 (vs, x.g.U) w'
theorem cur_notag (htg : σ.tg = none) {F : Nat -> Prop} {b o : Nat} {v : SV} {w : World} (h : Cur σ F b o v w) : Cur { σ with tg := none } F b o (v.1, []) w := by
 obtain ⟨C, t, h1, h2, h3, _⟩ := h.mem
 exact ⟨C, t, h1, h2, h3, rfl⟩
theorem rest_tags (htg : σ.tg = none) (h : TagsSet P Γ σ ot c) : Rest P Γ σ (KF σ ot) c i j [] := by
 intro x v a w hA hC hl _ _ hU
 refine wp_mono (h x v.1 a w hA (cur_notag htg hC) hU) ?_
 rintro e a1 w1 ⟨rfl, hA1, hC1⟩
 have hl' : v.1.length = i := by simpa using hl
 rw [show v.1.take i ++ fillsW [] j x.g = v.1 by simp [fillsW, <- hl']]
 exact ⟨rfl, hA1.defers, hA1.mod, hC1⟩
/-- the struct is given back -/
def KM (σ : St) (ot r : Nat) : Fx -> Exit -> Act -> World -> List Tr -> Prop := fun x e a' w' vs => e = .ret /\ a'.defers = [] /\ Mod none' x.w0 w' /\ Mod none' x.w1 w' /\ Act.get a' r = .pointer (some ⟨x.rb, 0, none⟩) /\
 ∃ (C : Array Value) (t : Nat), w'.heap[x.rb]? = some (.cells C t (0, 0)) /\ C.size = σ.sz /\ C.all (·.oneCell') = true /\ Rep w' (fun k => k < x.w0.heap.size \/ x.e <= k) (.struct σ.lay (some ot) σ.sz) (from' C 0) (.part vs x.g.U)
theorem rest_ret {d r T id : Nat} {y1 y2 : TypeId} {p1 p2 : String} {e1 e2 : Array Edge} (htg : σ.tg = none) (h : TagsSet P Γ σ ot c) (hr : Γ.r = some r) (hmT : many P T σ.sz = true) (hsT : sized P T σ.sz = true) (hfull : (Ty.struct σ.lay (some ot) σ.sz).full = true) (hok : (Ty.struct σ.lay (some ot) σ.sz).ok = true) (hrn : Γ.rn = σ.sz) (hs : Γ.free d = true) :
  Rest P Γ σ (KM σ ot r) (.seq c (.seq (.region id #[⟨some d, .load T (.tmp Γ.s), y1, p1, e1, none⟩, ⟨none, .store T (.tmp r) (.tmp d), y2, p2, e2, none⟩] false) .ret)) i j [] := by
 intro x v a w hA hC hl _ _ hU
 refine wp_seq (wp_mono (h x v.1 a w hA (cur_notag htg hC) hU) ?_)
 rintro e a1 w1 ⟨rfl, hA1, hC1⟩
 have hl' : v.1.length = i := by simpa using hl
 rw [show v.1.take i ++ fillsW [] j x.g = v.1 by simp [fillsW, <- hl']]
 obtain ⟨C, t, h1, h2, h3, h4⟩ := hC1.mem
 obtain ⟨r1, r2, r3, r6, Cr, tr, r4, r5⟩ := hA1.res r hr
 have hsz : C.size ≥ σ.sz := by have : 0 + σ.sz <= C.size := h2; omega
 obtain ⟨cs, hcs⟩ : ∃ cs, cs = (C.toList.take σ.sz).toArray := ⟨_, rfl⟩
 have hcsz : cs.size = σ.sz := by rw [hcs]; simp; omega
 have hcsj : ∀ j, j < σ.sz -> from' cs 0 j = from' C 0 j := fun j hj => by
  rw [hcs]
  simp only [from', Nat.zero_add, Array.getD_eq_getD_getElem?, List.getElem?_toArray, List.getElem?_take, if_pos hj, Array.getElem?_toList]
 have hrep : Rep w1 x.F (.struct σ.lay (some ot) σ.sz) (from' cs 0) (.part v.1 x.g.U) := by
  refine Rep.congr _ (from' C 0) _ _ hok (fun j hj => hcsj j hj) ?_
  simp only [Rep]
  exact ⟨v.1, x.g.U, h3, h4, rfl⟩
 have hall : cs.all (·.oneCell') = true := by
  rw [Array.all_eq_true]
  intro q hq
  have := Rep.ones _ _ _ hfull hrep q (by simp only [Ty.size]; omega)
  simpa [from', hq] using this
 refine wp_seq (wp_region_lit (Zv rfl (x_loadN (cs := cs.toList) (b := x.blk) (o := 0) (by rw [Array.length_toList, hcsz]; exact hmT) (by rw [Ze]; exact hA1.ptr) (fun q u hu => ?_)) ?_))
 ·rw [Zc h1, Nat.zero_add]
  rw [hcs] at hu
  simp only [List.getElem?_take] at hu
  split at hu
  ·rw [Array.getElem?_toList] at hu; exact hu
  ·cases hu
 have hd : Γ.r ≠ some d := (Fl.free_all hs).2.2.2
 have r5' : Cr.size = σ.sz := r5.trans hrn
 refine wpl_skip rfl (x_storeN (cs := cs) (b := x.rb) (o := 0) (by rw [hcsz]; exact hsT) ?_ ?_ hall ?_) (wpList_nil (wp_ret ?_))
 ·rw [Ze, Zn (fun e => hd (by rw [hr, e]))]; exact r1
 ·rw [Ze, Zq (hA1.lt hs)]
 ·intro j hj
  rw [Zc r4, Zz r4, Nat.zero_add, Array.getElem?_eq_getElem (by omega)]
  exact ⟨rfl, rfl⟩
 have k2 := put_tree (cs := cs) r4 (by omega)
 have m8 := mod_setCells x.rb w1 0 cs.toList
 have hmz := hA1.we
 refine ⟨rfl, ?_, hA1.mod.trans' m8 (fun _ _ f => f) (fun q hq e => ?_), hA1.m1.1.trans' m8 (fun _ _ f => f) (fun q hq e => ?_), ?_, cs, tr, k2, hcsz, hall, ?_⟩
 ·simp only [Zd]; exact hA1.defers
 ·have e' : q = x.rb := e
  omega
 ·have e' : q = x.rb := e
  have := hA1.m1.2.2.2 r hr
  omega
 ·rw [Zo, Zn (fun e => hd (by rw [hr, e]))]; exact r1
 ·exact hrep.mod m8 (fun k hk e => by have e' : k = x.rb := e; rcases hk.1 with h | h <;> omega) (fun k hk => hk.1)
end
end Go.Proofs.YtmehfgiadapekaaGreat
