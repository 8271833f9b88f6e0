/-
  Rules for the code that reads a message: what a piece of such code does, told by the pieces that it is made of.
-/
import Derived.Test.YtcldbjehliladaaDoorPRep
set_option linter.unusedSimpArgs false
set_option linter.unusedVariables false
namespace Go.Proofs.YtcldbjehliladaaDoor
open Go Go.RowKit
/-- the slots of a walk: the reader, the version, how texts are kept, whether it is flexible, the answer -/
structure Sl where
 N : Nat
 b : Nat
 ver : Nat
 uns : Nat
 flex : Option Nat
 res : Nat
/-- what stays in a walk -/
structure Cx where
 rb : Nat
 sb : Nat
 ver : Int
 flex : Bool
 uns : Bool
 ev : Value
/-- the struct that is read: its slot, its fields, its tags, its size -/
structure St where
 s : Nat
 lay : Lay
 tg : Option Nat
 sz : Nat
abbrev gErr : Nat := 1
structure Amb (Γ : Sl) (x : Cx) (s : RS) (a : Act) (w : World) : Prop where
 size : a.tmps.size = Γ.N
 defers : a.defers = []
 b : Act.get a Γ.b = .pointer (some ⟨x.rb, 0, none⟩)
 ver : Act.get a Γ.ver = .int .i16 x.ver
 uns : Act.get a Γ.uns = .bool x.uns
 flex : ∀ f, Γ.flex = some f -> Act.get a f = .bool x.flex
 rd : Rd w x.rb x.sb s
 err : ErrIs w x.ev
 glob : x.rb ≠ gErr
/-- a slot that may be written -/
def Sl.free (Γ : Sl) (t : Nat) : Bool := decide (t < Γ.N) && t != Γ.b && t != Γ.ver && t != Γ.uns && (match Γ.flex with | some f => t != f | none => true)
theorem Sl.free_spec {Γ : Sl} {t : Nat} (h : Γ.free t = true) : t < Γ.N /\ Γ.b ≠ t /\ Γ.ver ≠ t /\ Γ.uns ≠ t /\ ∀ f, Γ.flex = some f -> f ≠ t := by
 simp only [Sl.free, Bool.and_eq_true, decide_eq_true_eq, bne_iff_ne] at h
 obtain ⟨⟨⟨⟨h1, h2⟩, h3⟩, h4⟩, h5⟩ := h
 refine ⟨h1, Ne.symm h2, Ne.symm h3, Ne.symm h4, fun f hf => ?_⟩
 rw [hf] at h5
 simp only [bne_iff_ne] at h5
 exact Ne.symm h5
theorem ErrIs.mod {S : Nat -> Prop} {w w' : World} {ev : Value} (h : ErrIs w ev) (hm : Mod S w w') (hs : ¬ S gErr) : ErrIs w' ev := by
 unfold ErrIs at *
 rw [World.cell?_of_block (hm.block _ (World.block_lt_of_cell? _ _ h.1) hs)]
 exact h
theorem Amb.put {Γ : Sl} {x : Cx} {s : RS} {a : Act} {w : World} (h : Amb Γ x s a w) {t : Nat} (ht : Γ.free t = true) (v : Value) : Amb Γ x s (a.put (some t) v) w := by
 obtain ⟨h1, h2, h3, h4, h5⟩ := Sl.free_spec ht
 exact ⟨(Zs _ _ _).trans h.size, (Zd _ _ _).trans h.defers, (Zn (Ne.symm h2)).trans h.b, (Zn (Ne.symm h3)).trans h.ver, (Zn (Ne.symm h4)).trans h.uns,
  fun f hf => (Zn (Ne.symm (h5 f hf))).trans (h.flex f hf), h.rd, h.err, h.glob⟩
theorem Amb.world {Γ : Sl} {x : Cx} {s s' : RS} {a : Act} {w w' : World} (h : Amb Γ x s a w) (hr : Rd w' x.rb x.sb s') (he : ErrIs w' x.ev) : Amb Γ x s' a w' :=
 ⟨h.size, h.defers, h.b, h.ver, h.uns, h.flex, hr, he, h.glob⟩
theorem Amb.lt {Γ : Sl} {x : Cx} {s : RS} {a : Act} {w : World} (h : Amb Γ x s a w) {t : Nat} (ht : Γ.free t = true) : t < a.tmps.size := by
 rw [h.size]; exact (Sl.free_spec ht).1
/-- the slots that a piece of code writes -/
def writes : Code -> List Nat
 | .region _ ops _ => ops.toList.filterMap (·.dst)
 | .seq a b => writes a ++ writes b
 | .cond _ a b => writes a ++ writes b
 | .block _ b => writes b
 | .loop b => writes b
 | .scope b => writes b
 | _ => []
abbrev W (c : Code) : Nat -> Prop := fun t => t ∈ writes c
/-- a value, as a field of this kind, is this tree -/
def RepV (w : World) (F : Nat -> Prop) (ty : Ty) (v : Value) (t : Tr) : Prop :=
 (ty.size = 1 /\ v.oneCell' = true /\ Rep w F ty (fun _ => v) t) \/ (ty = .uuid /\ ∃ cs : Array Value, v = .agg cs /\ cs.size = 16 /\ cs.all (·.oneCell') = true /\ Rep w F .uuid (from' cs 0) t)
/-- a piece of code that reads a value into a slot -/
def Get (P : Program) (Γ : Sl) (c : Code) (tv : Nat) (ty : Ty) (rd : Int -> Bool -> RS -> Tr × RS) : Prop :=
 ∀ x s a w, Amb Γ x s a w -> c.wp P (fun e a' w' => e = .normal /\ Amb Γ x (rd x.ver x.flex s).2 a' w' /\
  (∀ F : Nat -> Prop, F x.sb -> (∀ k, w.heap.size <= k -> F k) -> RepV w' F ty (Act.get a' tv) (rd x.ver x.flex s).1) /\ SameBut (W c) a a' /\ Mod (only x.rb) w w') a w
/-- a method of the reader -/
def RdC (P : Program) (f : FuncId) (ty : Ty) (rd : RS -> Tr × RS) : Prop := ∀ w rb sb s, Rd w rb sb s -> Calls P f #[.pointer (some ⟨rb, 0, none⟩)] w fun e w' =>
 (∃ v, e = .returned v /\ ∀ F : Nat -> Prop, F sb -> (∀ k, w.heap.size <= k -> F k) -> RepV w' F ty v (rd s).1) /\ Rd w' rb sb (rd s).2 /\ Mod (only rb) w w'
section
variable {P : Program} {Γ : Sl} {id id' : Nat} {ty : Ty} {rd rd' : Int -> Bool -> RS -> Tr × RS}
 {y1 y2 y3 y4 y5 y6 : TypeId} {p1 p2 p3 p4 p5 p6 : String} {e1 e2 e3 e4 e5 e6 : Array Edge} {ts : Array TypeId}
theorem get_call {f tc tv : Nat} {rd : RS -> Tr × RS} (hc : RdC P f ty rd) (hb : bodied P f = true) (hs : (Γ.free tc && Γ.free tv) = true) :
  Get P Γ (.region id #[⟨some tc, .call ⟨.value (.func f), #[.tmp Γ.b], ts⟩, y1, p1, e1, none⟩, ⟨some tv, .assign (.tmp tc), y2, p2, e2, none⟩] false) tv ty (fun _ _ => rd) := by
 intro x s a w hA
 simp only [Bool.and_eq_true] at hs
 obtain ⟨s1, s2⟩ := hs
 refine wp_region_lit ?_
 refine wpl_call rfl (Zy hb rfl) (R := fun e w' => (∃ v, e = .returned v /\ ∀ F : Nat -> Prop, F x.sb -> (∀ k, w.heap.size <= k -> F k) -> RepV w' F ty v (rd s).1) /\ Rd w' x.rb x.sb (rd s).2 /\ Mod (only x.rb) w w') ?_ ?_
 ·have e0 : (#[Operand.tmp Γ.b] : Array Operand).map a.eval = #[.pointer (some ⟨x.rb, 0, none⟩)] := by simp [Ze, hA.b]
  rw [e0]
  exact hc w x.rb x.sb s hA.rd
 ·rintro e w' ⟨⟨v, rfl, hv⟩, hr, hm⟩
  refine ⟨v, rfl, Zv rfl Zi (wpList_nil ⟨rfl, ?_, ?_, ?_, hm⟩)⟩
  ·have he := hA.err.mod hm (Ne.symm hA.glob)
   exact (((hA.world hr he).put s1 _).put s2 _)
  ·intro F h1 h2
   have hl1 := hA.lt s1
   have hl2 := hA.lt s2
   rw [Zq (by rw [Zs]; exact hl2), Ze, Zq hl1]
   exact hv F h1 h2
  ·exact ((SameBut.refl a).put (by simp [W, writes]) _).put (by simp [W, writes]) _
theorem get_flex {f t tv : Nat} {c1 c2 : Code} (hf : Γ.flex = some f) (h1 : Get P Γ c1 tv ty rd) (h2 : Get P Γ c2 tv ty rd') (hs : Γ.free t = true) :
  Get P Γ (.seq (.region id #[⟨some t, .move (.tmp f), y1, p1, e1, none⟩] false) (.cond (.tmp t) c1 c2)) tv ty (fun ver fl s => if fl then rd ver fl s else rd' ver fl s) := by
 intro x s a w hA
 refine wp_seq (wp_region_lit (Zv rfl Zm (wpList_nil ?_)))
 have hA' := hA.put hs (a.eval (.tmp f))
 have hv : Act.eval (a.put (some t) (a.eval (.tmp f))) (.tmp t) = .bool x.flex := by
  rw [Ze, Zq (hA.lt hs), Ze, hA.flex f hf]
 have hsame : ∀ {a'}, SameBut (W c1) (a.put (some t) (a.eval (.tmp f))) a' \/ SameBut (W c2) (a.put (some t) (a.eval (.tmp f))) a' ->
   SameBut (W (.seq (.region id #[⟨some t, .move (.tmp f), y1, p1, e1, none⟩] false) (.cond (.tmp t) c1 c2))) a a' := by
  intro a' h
  have h0 : SameBut (W (.seq (.region id #[⟨some t, .move (.tmp f), y1, p1, e1, none⟩] false) (.cond (.tmp t) c1 c2))) a (a.put (some t) (a.eval (.tmp f))) := (SameBut.refl a).put (by simp [W, writes]) _
  rcases h with h | h
  ·exact h0.trans (h.mono fun t ht => by simp only [W, writes, List.mem_append] at *; exact .inr (.inl ht))
  ·exact h0.trans (h.mono fun t ht => by simp only [W, writes, List.mem_append] at *; exact .inr (.inr ht))
 cases hfl : x.flex with
 | true =>
  refine wp_cond_true (hv.trans (by rw [hfl])) (wp_mono (h1 x s _ w hA') ?_)
  rintro e a' w' ⟨rfl, g1, g2, g3, g4⟩
  rw [hfl] at g1 g2
  exact ⟨rfl, by simpa using g1, by simpa using g2, hsame (.inl g3), g4⟩
 | false =>
  refine wp_cond_false (hv.trans (by rw [hfl])) (wp_mono (h2 x s _ w hA') ?_)
  rintro e a' w' ⟨rfl, g1, g2, g3, g4⟩
  rw [hfl] at g1 g2
  exact ⟨rfl, by simpa using g1, by simpa using g2, hsame (.inr g3), g4⟩
theorem get_uns {t tv : Nat} {c1 c2 : Code} (h1 : Get P Γ c1 tv ty rd) (h2 : Get P Γ c2 tv ty rd) (hs : Γ.free t = true) :
  Get P Γ (.seq (.region id #[⟨some t, .move (.tmp Γ.uns), y1, p1, e1, none⟩] false) (.cond (.tmp t) c1 c2)) tv ty rd := by
 intro x s a w hA
 refine wp_seq (wp_region_lit (Zv rfl Zm (wpList_nil ?_)))
 have hA' := hA.put hs (a.eval (.tmp Γ.uns))
 have hv : Act.eval (a.put (some t) (a.eval (.tmp Γ.uns))) (.tmp t) = .bool x.uns := by
  rw [Ze, Zq (hA.lt hs), Ze, hA.uns]
 have h0 : SameBut (W (.seq (.region id #[⟨some t, .move (.tmp Γ.uns), y1, p1, e1, none⟩] false) (.cond (.tmp t) c1 c2))) a (a.put (some t) (a.eval (.tmp Γ.uns))) := (SameBut.refl a).put (by simp [W, writes]) _
 cases hfl : x.uns with
 | true =>
  refine wp_cond_true (hv.trans (by rw [hfl])) (wp_mono (h1 x s _ w hA') ?_)
  rintro e a' w' ⟨rfl, g1, g2, g3, g4⟩
  exact ⟨rfl, g1, g2, h0.trans (g3.mono fun t ht => by simp only [W, writes, List.mem_append] at *; exact .inr (.inl ht)), g4⟩
 | false =>
  refine wp_cond_false (hv.trans (by rw [hfl])) (wp_mono (h2 x s _ w hA') ?_)
  rintro e a' w' ⟨rfl, g1, g2, g3, g4⟩
  exact ⟨rfl, g1, g2, h0.trans (g3.mono fun t ht => by simp only [W, writes, List.mem_append] at *; exact .inr (.inr ht)), g4⟩
end
/-- what a piece of code makes of a struct's fields, its tags, and what is to be read: goes on; ends at once with the error; or nothing is said -/
inductive R (α : Type) where
 | ok (v : α) (s : RS)
 | early
 | stuck
def R.then {α β : Type} (r : R α) (f : α -> RS -> R β) : R β := match r with
 | .ok v s => f v s
 | .early => .early
 | .stuck => .stuck
abbrev SV := List Tr × Tags
abbrev FT := Int -> Bool -> SV -> RS -> R SV
/-- the struct in memory -/
structure Cur (σ : St) (F : Nat -> Prop) (blk off : Nat) (v : SV) (w : World) : Prop where
 mem : ∃ C t, w.heap[blk]? = some (.cells C t (0, 0)) /\ off + σ.sz <= C.size /\ RepL w F σ.lay (from' C off) v.1 /\ (match σ.tg with | some o => TagsR w F (from' C off o) v.2 | none => v.2 = [])
/-- which blocks are apart -/
structure Sep (x : Cx) (F : Nat -> Prop) (blk : Nat) (w : World) : Prop where
 apart : ∀ k, F k -> k ≠ x.rb /\ k ≠ blk
 fresh : ∀ k, w.heap.size <= k -> F k
 src : F x.sb
 old : x.sb < w.heap.size
 rb : blk ≠ x.rb
 glob : blk ≠ gErr
/-- what has turned: the reader, and the struct's own cells -/
structure Stp (x : Cx) (blk off sz : Nat) (w w' : World) : Prop where
 mod : Mod (fun k => k = x.rb \/ k = blk) w w'
 out : ∀ C t, w.heap[blk]? = some (.cells C t (0, 0)) -> ∃ C', w'.heap[blk]? = some (.cells C' t (0, 0)) /\ C'.size = C.size /\ ∀ j, j < off \/ off + sz <= j -> C'[j]? = C[j]?
theorem Stp.refl {x : Cx} {blk off sz : Nat} (w : World) : Stp x blk off sz w w := ⟨.refl w, fun C t h => ⟨C, h, rfl, fun _ _ => rfl⟩⟩
theorem Stp.trans {x : Cx} {blk off sz : Nat} {a b c : World} (h : Stp x blk off sz a b) (k : Stp x blk off sz b c) : Stp x blk off sz a c :=
 ⟨h.mod.trans k.mod, fun C t hc => by
  obtain ⟨C', h1, h2, h3⟩ := h.out C t hc
  obtain ⟨C'', k1, k2, k3⟩ := k.out C' t h1
  exact ⟨C'', k1, k2.trans h2, fun j hj => (k3 j hj).trans (h3 j hj)⟩⟩
theorem Stp.of_rd {x : Cx} {blk off sz : Nat} {a b : World} (h : Mod (only x.rb) a b) (hne : blk ≠ x.rb) : Stp x blk off sz a b :=
 ⟨h.mono fun _ _ e => .inl e, fun C t hc => ⟨C, h.some hc hne, rfl, fun _ _ => rfl⟩⟩
theorem Sep.later {x : Cx} {F : Nat -> Prop} {blk : Nat} {w w' : World} (h : Sep x F blk w) (hs : w.heap.size <= w'.heap.size) : Sep x F blk w' :=
 ⟨h.apart, fun k hk => h.fresh k (by omega), h.src, by have := h.old; omega, h.rb, h.glob⟩
theorem Cur.later {σ : St} {F S : Nat -> Prop} {blk off : Nat} {v : SV} {w w' : World} (h : Cur σ F blk off v w) (hm : Mod S w w') (hb : ¬ S blk) (hs : ∀ k, F k -> ¬ S k) : Cur σ F blk off v w' := by
 obtain ⟨C, t, h1, h2, h3, h4⟩ := h.mem
 refine ⟨C, t, hm.some h1 hb, h2, h3.mod hm hs (fun _ h => h), ?_⟩
 cases htg : σ.tg with
 | none => rw [htg] at h4; exact h4
 | some o => rw [htg] at h4; exact h4.mod hm hs (fun _ h => h)
/-- a piece of code that reads fields of a struct -/
def Blk (P : Program) (Γ : Sl) (σ : St) (c : Code) (f : FT) : Prop :=
 ∀ x F blk off v s a w, Amb Γ x s a w -> Act.get a σ.s = .pointer (some ⟨blk, off, none⟩) -> Cur σ F blk off v w -> Sep x F blk w -> f x.ver x.flex v s ≠ .stuck ->
  c.wp P (fun e a' w' => match e with
   | .normal => ∃ v' s', f x.ver x.flex v s = .ok v' s' /\ Amb Γ x s' a' w' /\ Cur σ F blk off v' w' /\ SameBut (W c) a a' /\ Stp x blk off σ.sz w w'
   | .ret => f x.ver x.flex v s = .early /\ Act.get a' Γ.res = x.ev /\ a'.defers = [] /\ Stp x blk off σ.sz w w'
   | _ => False) a w
section
variable {P : Program} {Γ : Sl} {σ : St} {id id' : Nat} {ty : Ty} {rd rd' : Int -> Bool -> RS -> Tr × RS} {f g : FT}
 {y1 y2 y3 y4 y5 y6 : TypeId} {p1 p2 p3 p4 p5 p6 : String} {e1 e2 e3 e4 e5 e6 : Array Edge} {ts : Array TypeId}
theorem blk_seq {c1 c2 : Code} (h1 : Blk P Γ σ c1 f) (h2 : Blk P Γ σ c2 g) (hs : σ.s ∉ writes c1) : Blk P Γ σ (.seq c1 c2) (fun ver fl v s => (f ver fl v s).then (g ver fl)) := by
 intro x F blk off v s a w hA hp hC hS hns
 have hns1 : f x.ver x.flex v s ≠ .stuck := fun e => hns (by simp [e, R.then])
 refine wp_seq (wp_mono (h1 x F blk off v s a w hA hp hC hS hns1) ?_)
 intro e a1 w1 h
 cases e with
 | normal =>
  obtain ⟨v1, s1, e1, hA1, hC1, hsb, hst⟩ := h
  simp only [e1, R.then] at hns ⊢
  refine wp_mono (h2 x F blk off v1 s1 a1 w1 hA1 ((hsb.get _ hs).trans hp) hC1 (hS.later hst.mod.size) hns) ?_
  intro e a2 w2 h'
  cases e with
  | normal =>
   obtain ⟨v2, s2, e2, hA2, hC2, hsb2, hst2⟩ := h'
   exact ⟨v2, s2, e2, hA2, hC2, (hsb.mono fun t ht => by simp only [W, writes, List.mem_append] at *; exact .inl ht).trans (hsb2.mono fun t ht => by simp only [W, writes, List.mem_append] at *; exact .inr ht), hst.trans hst2⟩
  | ret => exact ⟨h'.1, h'.2.1, h'.2.2.1, hst.trans h'.2.2.2⟩
  | _ => exact h'.elim
 | ret => exact ⟨by simp [h.1, R.then], h.2.1, h.2.2.1, h.2.2.2⟩
 | _ => exact h.elim
def idF : FT := fun _ _ v s => .ok v s
/-- a slot that no one looks at is set -/
theorem blk_nop {t : Nat} {u : Value} (hs : (Γ.free t && t != σ.s) = true) : Blk P Γ σ (.region id #[⟨some t, .assign (.const u), y1, p1, e1, none⟩] false) idF := by
 intro x F blk off v s a w hA hp hC hS _
 simp only [Bool.and_eq_true, bne_iff_ne] at hs
 refine wp_region_lit (Zv rfl Zi (wpList_nil ?_))
 exact ⟨v, s, rfl, hA.put hs.1 _, hC, (SameBut.refl a).put (by simp [W, writes]) _, .refl w⟩
def putF (i : Nat) (rd : Int -> Bool -> RS -> Tr × RS) : FT := fun ver fl v s => .ok (v.1.set i (rd ver fl s).1, v.2) (rd ver fl s).2
/-- a value is stored into a field -/
theorem cur_store {σ : St} {F : Nat -> Prop} {blk off i o : Nat} {v : SV} {w : World} {C : Array Value} {t : TypeId} {ty : Ty} {u : Tr} (hok : σ.lay.ok 0 σ.sz = true) (htg : ∀ q, σ.tg = some q -> q < σ.sz /\ (q < o \/ o + ty.size <= q))
  (hat : σ.lay.at i = some (o, ty)) (hC : Cur σ F blk off v w) (hF : ∀ k, F k -> k ≠ blk) {w' : World} {C' : Array Value}
  (hm : Mod (only blk) w w') (h0 : w.heap[blk]? = some (.cells C t (0, 0))) (h1 : w'.heap[blk]? = some (.cells C' t (0, 0))) (hsz : C'.size = C.size)
  (hout : ∀ j, j < off + o \/ off + o + ty.size <= j -> C'[j]? = C[j]?) (hrep : Rep w F ty (fun j => from' C' off (o + j)) u) : Cur σ F blk off (v.1.set i u, v.2) w' := by
 obtain ⟨C0, t0, g1, g2, g3, g4⟩ := hC.mem
 rw [h0] at g1
 obtain ⟨rfl, rfl⟩ : C = C0 /\ t = t0 := by simpa using g1
 have hin := Lay.at_in _ _ _ _ _ _ hok hat
 have hF' : ∀ k, F k -> ¬ only blk k := fun k hk e => hF k hk e
 have hsame : ∀ j, j < σ.sz -> j < o \/ o + ty.size <= j -> from' C' off j = from' C off j := fun j _ hj => by
  simp only [from', Array.getD_eq_getD_getElem?]
  rw [hout (off + j) (by omega)]
 refine ⟨C', t, h1, by omega, (RepL.set _ 0 σ.sz i o ty _ _ _ u hok hat (fun j _ h2 h3 => hsame j h2 h3) hrep g3).mod hm hF' (fun _ h => h), ?_⟩
 cases hq : σ.tg with
 | none => rw [hq] at g4; exact g4
 | some q =>
  rw [hq] at g4
  obtain ⟨q1, q2⟩ := htg q hq
  show TagsR w' F (from' C' off q) v.2
  rw [hsame q q1 q2]
  exact TagsR.mod g4 hm hF' (fun _ h => h)
/-- the tags lie beside a field -/
def St.okAt (σ : St) (i o : Nat) (ty : Ty) : Bool := σ.lay.ok 0 σ.sz && (match σ.tg with | some q => decide (q < σ.sz) && (decide (q < o) || decide (o + ty.size <= q)) | none => true) &&
 (match σ.lay.at i with | some (o', _) => o' == o | none => false)
theorem heap_setCells {b : Nat} {t : TypeId} {fr : Nat × Nat} : ∀ {w : World} (vs : List Value) (o : Nat) (C : Array Value), w.heap[b]? = some (.cells C t fr) -> ∃ C', (w.setCells b o vs).heap[b]? = some (.cells C' t fr) /\ C'.size = C.size /\
  (∀ j (hj : j < vs.length), o + j < C.size -> C'[o + j]? = some vs[j]) /\ ∀ j, j < o \/ o + vs.length <= j -> C'[j]? = C[j]?
 | w, [], o, C, h => ⟨C, h, rfl, fun j hj => by simp at hj, fun _ _ => rfl⟩
 | w, v :: vs, o, C, h => by
  obtain ⟨C', h1, h2, h3, h4⟩ := heap_setCells (w := w.setCell ⟨b, o, none⟩ v) vs (o + 1) _ (heap_setCell_same h v)
  refine ⟨C', h1, by simpa using h2, fun j hj hlt => ?_, fun j hj => ?_⟩
  ·cases j with
   | zero => rw [h4 (o + 0) (.inl (by omega))]; simp at hlt; simp [hlt]
   | succ j =>
    have := h3 j (by simpa using hj) (by simp; omega)
    rw [show o + (j + 1) = o + 1 + j by omega, this]
    simp
  ·simp only [List.length_cons] at hj
   rw [h4 j (by omega), Array.getElem?_setIfInBounds_ne (by omega)]
theorem mod_setCells (b : Nat) : ∀ (w : World) (o : Nat) (vs : List Value), Mod (only b) w (w.setCells b o vs)
 | w, o, [] => .refl w
 | w, o, v :: vs => ((Mod.refl w).put o v).trans (mod_setCells b _ (o + 1) vs)
theorem get_from' {C : Array Value} {o j : Nat} {v : Value} (h : C[o + j]? = some v) : from' C o j = v := by simp [from', h]
end
end Go.Proofs.YtcldbjehliladaaDoor
