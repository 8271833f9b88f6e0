/-
  Rules for the code that sets a message's fields from a tree (FnMake).
-/
import Derived.Test.YtmehfgiadapekaaGreatPZa
import Derived.Test.YtmehfgiadapekaaGreatPZb
import Derived.Test.YtmehfgiadapekaaGreatPZg
set_option linter.unusedSimpArgs false
set_option linter.unusedVariables false
namespace Go.Proofs.YtmehfgiadapekaaGreat
open Go Go.RowKit
/-- a field that lies in one cell -/
def fldOne (P : Program) (T k o : Nat) : Bool := match P.underlying T with
 | some (.struct fs) => match fs[k]? with
  | some f => one P f.type && f.offset == o
  | none => false
 | _ => false
theorem x_fieldO {P : Program} {ρ : Operand -> Value} {w : World} {d : Option Tmp} {ty : TypeId} {p : String} {af : Array Edge} {g : Option (Nat × Bool)} {x : Operand} {T k o : Nat} {cs : Array Value} {v : Value} (hf : fldOne P T k o = true) (hx : ρ x = .agg cs) (hc : cs[o]? = some v) :
  (execOp ρ ⟨d, .field T x k, ty, p, af, g⟩).run P w = .ok (.value v) w := by
 unfold fldOne at hf
 cases hu : P.underlying T with
 | none => simp [hu] at hf
 | some ds =>
  cases ds with
  | struct fs =>
   cases hk : fs[k]? with
   | none => simp [hu, hk] at hf
   | some f =>
    simp only [hu, hk, Bool.and_eq_true, beq_iff_eq] at hf
    obtain ⟨h1, rfl⟩ := hf
    simp [execOp, Instr.field, run_underlying hu, hk, hx, asAgg, part, isAgg_one h1, hc]
  | _ => simp [hu] at hf
/-- the slots of a walk that sets fields: the tree's box, the struct -/
structure Fl where
 N : Nat
 tb : Nat
 s : Nat
 ot : Option Nat
 r : Option Nat
 rn : Nat
/-- where the tags lie is not touched -/
def Fl.off (Γ : Fl) (o n : Nat) : Bool := match Γ.ot with | some q => decide (q < o) || decide (o + n <= q) | none => true
theorem Fl.off_spec {Γ : Fl} {o n : Nat} (h : Γ.off o n = true) : ∀ q, Γ.ot = some q -> q < o \/ o + n <= q := fun q hq => by
 unfold Fl.off at h
 rw [hq] at h
 simpa using h
/-- what stays in such a walk -/
structure Fx where
 blk : Nat
 tblk : Nat
 ct : Array Value
 g : Tr
 w0 : World
 e : Nat
 rb : Nat
 w1 : World
/-- what is old, or made since -/
def Fx.nw (x : Fx) (w : World) : Nat -> Prop := fun k => k < x.w0.heap.size \/ w.heap.size <= k
/-- where what is set may lie -/
def Fx.F (x : Fx) : Nat -> Prop := fun k => (k < x.w0.heap.size \/ x.e <= k) /\ k ≠ x.blk /\ k ≠ x.tblk
structure FA (Γ : Fl) (x : Fx) (a : Act) (w : World) : Prop where
 size : a.tmps.size = Γ.N
 defers : a.defers = []
 tree : Act.get a Γ.tb = .pointer (some ⟨x.tblk, 0, none⟩)
 ptr : Act.get a Γ.s = .pointer (some ⟨x.blk, 0, none⟩)
 hb : ∃ T, w.heap[x.tblk]? = some (.cells x.ct T (0, 0))
 ct : x.ct.size = 5
 tr : TreeI x.w0 (from' x.ct 0) x.g
 mod : Mod none' x.w0 w
 lo : x.w0.heap.size <= x.blk /\ x.w0.heap.size <= x.tblk /\ x.blk ≠ x.tblk
 ent : x.e <= w.heap.size
 nt : ∀ q, Γ.ot = some q -> ∃ C t, w.heap[x.blk]? = some (.cells C t (0, 0)) /\ C[0 + q]? = some (.map none)
 we : x.w0.heap.size <= x.e
 res : ∀ q, Γ.r = some q -> Act.get a q = .pointer (some ⟨x.rb, 0, none⟩) /\ x.rb < x.e /\ x.rb ≠ x.blk /\ x.w0.heap.size <= x.rb /\ ∃ C t, w.heap[x.rb]? = some (.cells C t (0, 0)) /\ C.size = Γ.rn
 m1 : Mod none' x.w1 w /\ x.w1.heap.size <= x.blk /\ x.w1.heap.size <= x.e /\ ∀ q, Γ.r = some q -> x.w1.heap.size <= x.rb
def Fl.free (Γ : Fl) (t : Nat) : Bool := decide (t < Γ.N) && t != Γ.tb && t != Γ.s && !(Γ.r == some t)
theorem Fl.free_all {Γ : Fl} {t : Nat} (h : Γ.free t = true) : t < Γ.N /\ t ≠ Γ.tb /\ t ≠ Γ.s /\ Γ.r ≠ some t := by simpa [Fl.free, and_assoc] using h
theorem Fl.free_spec {Γ : Fl} {t : Nat} (h : Γ.free t = true) : t < Γ.N /\ t ≠ Γ.tb /\ t ≠ Γ.s := ⟨(Fl.free_all h).1, (Fl.free_all h).2.1, (Fl.free_all h).2.2.1⟩
section
variable {Γ : Fl} {x : Fx} {a : Act} {w w' : World}
theorem FA.put (h : FA Γ x a w) {t : Nat} (ht : Γ.free t = true) (v : Value) : FA Γ x (a.put (some t) v) w := by
 obtain ⟨h1, h2, h3, h4⟩ := Fl.free_all ht
 exact ⟨(Zs _ _ _).trans h.size, (Zd _ _ _).trans h.defers, (Zn h2).trans h.tree, (Zn h3).trans h.ptr, h.hb, h.ct, h.tr, h.mod, h.lo, h.ent, h.nt, h.we, fun q hq => ⟨(Zn (d := t) (t := q) (fun e => h4 (by rw [e]; exact hq))).trans (h.res q hq).1, (h.res q hq).2⟩, h.m1⟩
theorem FA.lt (h : FA Γ x a w) {t : Nat} (ht : Γ.free t = true) : t < a.tmps.size := by rw [h.size]; exact (Fl.free_spec ht).1
theorem FA.world {S : Nat -> Prop} (h : FA Γ x a w) (hm : Mod S w w') (hs : ∀ k, S k -> x.e <= k /\ k ≠ x.tblk /\ k ≠ x.blk) : FA Γ x a w' := by
 obtain ⟨T, hb⟩ := h.hb
 have hwe := h.we
 exact ⟨h.size, h.defers, h.tree, h.ptr, ⟨T, hm.some hb (fun e => (hs _ e).2.1 rfl)⟩, h.ct, h.tr, h.mod.trans' hm (fun _ _ f => f) (fun j hj e => by have := (hs j e).1; omega), h.lo, Nat.le_trans h.ent hm.size, fun q hq => by
  obtain ⟨C, t, h1, h2⟩ := h.nt q hq
  exact ⟨C, t, hm.some h1 (fun e => (hs _ e).2.2 rfl), h2⟩, h.we, fun q hq => by
  obtain ⟨r1, r2, r3, r6, C, t, r4, r5⟩ := h.res q hq
  exact ⟨r1, r2, r3, r6, C, t, hm.some r4 (fun e => by have := (hs _ e).1; omega), r5⟩, h.m1.1.trans' hm (fun _ _ f => f) (fun j hj e => by have := (hs j e).1; have := h.m1.2.2.1; omega), h.m1.2⟩
/-- the struct's own cells are set, but for where the tags lie -/
theorem FA.store (h : FA Γ x a w) (hm : Mod (only x.blk) w w') (hst : ∀ C t, w.heap[x.blk]? = some (.cells C t (0, 0)) -> ∃ C', w'.heap[x.blk]? = some (.cells C' t (0, 0)) /\ ∀ q, Γ.ot = some q -> C'[0 + q]? = C[0 + q]?) : FA Γ x a w' := by
 obtain ⟨T, hb⟩ := h.hb
 have hl := h.lo
 exact ⟨h.size, h.defers, h.tree, h.ptr, ⟨T, hm.some hb (fun e => by have e' : x.tblk = x.blk := e; omega)⟩, h.ct, h.tr, h.mod.trans' hm (fun _ _ f => f) (fun j hj e => by have e' : j = x.blk := e; omega), h.lo, Nat.le_trans h.ent hm.size, fun q hq => by
  obtain ⟨C, t, h1, h2⟩ := h.nt q hq
  obtain ⟨C', h3, h4⟩ := hst C t h1
  exact ⟨C', t, h3, (h4 q hq).trans h2⟩, h.we, fun q hq => by
  obtain ⟨r1, r2, r3, r6, C, t, r4, r5⟩ := h.res q hq
  exact ⟨r1, r2, r3, r6, C, t, hm.some r4 (fun e => r3 e), r5⟩, h.m1.1.trans' hm (fun _ _ f => f) (fun j hj e => by have e' : j = x.blk := e; have := h.m1.2.1; omega), h.m1.2⟩
theorem FA.new (h : FA Γ x a w) (hm : Mod none' w w') : FA Γ x a w' := h.world hm (fun _ f => f.elim)
theorem FA.same (h : FA Γ x a w) {a' : Act} {W : Nat -> Prop} (hs : SameBut W a a') (h1 : ¬ W Γ.tb) (h2 : ¬ W Γ.s) (h3 : ∀ q, Γ.r = some q -> ¬ W q) : FA Γ x a' w :=
 ⟨hs.size.trans h.size, hs.defers.trans h.defers, (hs.get _ h1).trans h.tree, (hs.get _ h2).trans h.ptr, h.hb, h.ct, h.tr, h.mod, h.lo, h.ent, h.nt, h.we, fun q hq => ⟨(hs.get _ (h3 q hq)).trans (h.res q hq).1, (h.res q hq).2⟩, h.m1⟩
theorem FA.tlt (h : FA Γ x a w) : x.tblk < w.heap.size := by obtain ⟨T, hb⟩ := h.hb; exact lt_of_block hb
theorem FA.fresh (h : FA Γ x a w) (hb : x.blk < w.heap.size) {k : Nat} (hk : x.nw w k) : x.F k := by
 have h1 := h.tlt
 have h2 := h.ent
 have h3 := h.lo
 rcases hk with hk | hk
 ·exact ⟨.inl hk, by omega, by omega⟩
 ·exact ⟨.inr (by omega), by omega, by omega⟩
theorem Fx.nw_mono {w1 w2 : World} (h : w1.heap.size <= w2.heap.size) {k : Nat} (hk : x.nw w2 k) : x.nw w1 k := hk.imp id fun h' => by omega
end
/-- a value of any kind, as it is stored -/
def RepS (w : World) (F : Nat -> Prop) (ty : Ty) (v : Value) (t : Tr) : Prop :=
 (ty.size = 1 /\ v.oneCell' = true /\ Rep w F ty (fun _ => v) t) \/ (∃ cs : Array Value, v = .agg cs /\ cs.size = ty.size /\ cs.all (·.oneCell') = true /\ Rep w F ty (from' cs 0) t)
theorem RepS.mod {w w' : World} {F F' S : Nat -> Prop} {ty : Ty} {v : Value} {t : Tr} (h : RepS w F ty v t) (hm : Mod S w w') (hs : ∀ k, F k -> ¬ S k) (hf : ∀ k, F k -> F' k) : RepS w' F' ty v t := by
 rcases h with ⟨h1, h2, h3⟩ | ⟨cs, h1, h2, h3, h4⟩
 ·exact .inl ⟨h1, h2, h3.mod hm hs hf⟩
 ·exact .inr ⟨cs, h1, h2, h3, h4.mod hm hs hf⟩
/-- a piece of code that sets one field of a struct -/
def Fst (P : Program) (Γ : Fl) (σ : St) (c : Code) (i : Nat) (z : Tr) (f : Tr -> Tr) (ok : Tr -> Prop) : Prop :=
 ∀ x v a w, FA Γ x a w -> Cur σ x.F x.blk 0 v w -> v.1[i]? = some z -> ok x.g -> c.wp P (fun e a' w' => e = .normal /\ FA Γ x a' w' /\ Cur σ x.F x.blk 0 (v.1.set i (f x.g), v.2) w') a w
/-- operations that make a value out of what a field says -/
def Val (P : Program) (Γ : Fl) (S : List Nat) (ops : List Oper) (t3 tv : Nat) (ty : Ty) (f : Tr -> Tr) (ok : Tr -> Prop) : Prop :=
 ∀ (all : Array Oper) (Q : Exit -> Act -> World -> Prop) (rest : List Oper) (x : Fx) (a : Act) (w : World) (cs : Array Value) (y : Tr), FA Γ x a w -> Act.get a t3 = .agg cs -> cs.size = 5 -> TreeI x.w0 (from' cs 0) y -> ok y ->
  (∀ a' w', FA Γ x a' w' -> SameBut (fun t => t ∈ S) a a' -> Mod none' w w' -> RepS w' (x.nw w) ty (Act.get a' tv) (f y) -> wpList P all Q rest a' w') -> wpList P all Q (ops ++ rest) a w
section
variable {P : Program} {Γ : Fl} {σ : St} {S : List Nat} {id i j o k T TT ys t1 t2 t3 t6 t7 tv fat : Nat} {ty : Ty} {z : Tr} {f : Tr -> Tr} {ok : Tr -> Prop} {mids : List Oper}
 {y1 y2 y3 y4 y5 y6 y7 y8 : TypeId} {p1 p2 p3 p4 p5 p6 p7 p8 : String} {e1 e2 e3 e4 e5 e6 e7 e8 : Array Edge} {ts : Array TypeId}
/-- what the program's own 'at' says -/
def AtC (P : Program) (f : FuncId) : Prop := ∀ {w0 w : World} {cs : Array Value} {t : Tr} {i : Nat}, Mod none' w0 w -> cs.size = 5 -> TreeI w0 (from' cs 0) t -> Calls P f #[.agg cs, .int .i64 i] w fun e w' =>
  Mod none' w w' /\ ∃ cs', e = .returned (.agg cs') /\ cs'.size = 5 /\ TreeI w0 (from' cs' 0) (t.L.getD i .zero)
/-- the value is stored into the struct -/
theorem fst_put {all : Array Oper} {Q : Exit -> Act -> World -> Prop} {x : Fx} {v : SV} {a b : Act} {w w1 : World} {u : Tr} (hat : σ.lay.at i = some (o, ty)) (hok : σ.okAt i o ty = true) (hsz : sized P ys ty.size = true) (hot : Γ.off o ty.size = true) (hA : FA Γ x a w1) (hC : Cur σ x.F x.blk 0 v w) (hm : Mod none' w w1)
  (h7 : Act.get a t7 = .pointer (some ⟨x.blk, 0 + o, none⟩)) (hv : RepS w1 (x.nw w) ty (Act.get a tv) u) (hAw : FA Γ x b w) (hk : ∀ a' w', FA Γ x a' w' -> Cur σ x.F x.blk 0 (v.1.set i u, v.2) w' -> Q .normal a' w') :
  wpList P all Q [⟨none, .store ys (.tmp t7) (.tmp tv), y8, p8, e8, none⟩] a w1 := by
 obtain ⟨C0, t0, h0, h2, h3, h4⟩ := hC.mem
 have hbw := lt_of_block h0
 have hF : ∀ k, x.F k -> k ≠ x.blk := fun k hk => hk.2.1
 have hnew : ∀ k, x.nw w k -> x.F k := fun k hk => hAw.fresh hbw hk
 have hC1 : Cur σ x.F x.blk 0 v w1 := hC.later hm (fun f => f) (fun _ _ f => f)
 have h1 := hm.some h0 (fun f => f)
 simp only [St.okAt, Bool.and_eq_true] at hok
 have hin := Lay.at_in _ _ _ _ _ _ hok.1.1 hat
 have htg : ∀ q, σ.tg = some q -> q < σ.sz /\ (q < o \/ o + ty.size <= q) := fun q hq => by
  have := hok.1.2
  rw [hq] at this
  simpa using this
 rcases hv with ⟨hs1, hone, hrep⟩ | ⟨cs, hag, hcs, hall, hrep⟩
 ·have hlt : 0 + o < C0.size := by omega
  refine wpl_skip rfl (x_store1 (by rw [<- hs1]; exact hsz) (b := x.blk) (o := 0 + o) (v := Act.get a tv) (by rw [Ze, h7]) (Ze _) hone (by rw [Zc h1, Array.getElem?_eq_getElem hlt]) (Zz h1)) (wpList_nil ?_)
  rw [Zo]
  have hm2 : Mod (only x.blk) w1 (w1.setCell ⟨x.blk, 0 + o, none⟩ (Act.get a tv)) := (Mod.refl w1).put _ _
  refine hk _ _ (hA.store hm2 fun C t hC => ?_) ?_
  ·rw [h1] at hC
   obtain ⟨rfl, rfl⟩ : C0 = C /\ t0 = t := by simpa using hC
   refine ⟨_, heap_setCell_same h1 _, fun q hq => ?_⟩
   have := Fl.off_spec hot q hq
   rw [Array.getElem?_setIfInBounds_ne (by omega)]
  refine cur_store hok.1.1 htg hat hC1 hF hm2 h1 (heap_setCell_same h1 _) (by simp) (fun j hj => by rw [Array.getElem?_setIfInBounds_ne (by omega)]) ?_
  refine (Rep.congr ty (fun _ => Act.get a tv) _ _ hin.2.2 (fun j hj => ?_) hrep).mod (Mod.refl (S := none') w1) (fun _ _ f => f) hnew
  have hj0 : j = 0 := by omega
  subst hj0
  refine get_from' ?_
  rw [Nat.add_zero]
  simp [Array.getElem?_setIfInBounds, hlt]
  omega
 ·have hlt : 0 + o + cs.size <= C0.size := by omega
  refine wpl_skip rfl (x_storeN (cs := cs) (b := x.blk) (o := 0 + o) (by rw [hcs]; exact hsz) (by rw [Ze, h7]) (by rw [Ze, hag]) hall ?_) (wpList_nil ?_)
  ·intro j hj
   rw [Zc h1, Zz h1, Array.getElem?_eq_getElem (by omega)]
   exact ⟨rfl, rfl⟩
  rw [Zo]
  obtain ⟨C', g1, g2, g3, g4⟩ := heap_setCells (w := w1) cs.toList (0 + o) C0 h1
  simp only [Array.length_toList] at g3 g4
  have hm2 := mod_setCells x.blk w1 (0 + o) cs.toList
  refine hk _ _ (hA.store hm2 fun C t hC => ?_) ?_
  ·rw [h1] at hC
   obtain ⟨rfl, rfl⟩ : C0 = C /\ t0 = t := by simpa using hC
   refine ⟨C', g1, fun q hq => ?_⟩
   have := Fl.off_spec hot q hq
   exact g4 _ (by omega)
  refine cur_store hok.1.1 htg hat hC1 hF hm2 h1 g1 g2 (fun j hj => g4 j (by omega)) ?_
  refine (Rep.congr ty (from' cs 0) _ _ hin.2.2 (fun j hj => ?_) hrep).mod (Mod.refl (S := none') w1) (fun _ _ f => f) hnew
  have h5 := g3 j (by omega) (by omega)
  refine get_from' ?_
  rw [show 0 + (o + j) = 0 + o + j by omega, h5]
  simp [from', show j < cs.size by omega]
/-- the same, where the struct is one's own -/
theorem fst_make (hat' : AtC P fat) (hbd : bodied P fat = true) (hmT : many P TT 5 = true) (hv : Val P Γ S mids t3 tv ty f ok) (hat : σ.lay.at i = some (o, ty)) (hok : σ.okAt i o ty = true) (hf : fieldOff P T k = some o) (hsz : sized P ys ty.size = true) (hot : Γ.off o ty.size = true)
  (hs : (Γ.free t2 && Γ.free t3 && Γ.free t7 && t7 != tv) = true) :
  Fst P Γ σ (.region id (List.toArray (⟨some t2, .load TT (.tmp Γ.tb), y2, p2, e2, none⟩ :: ⟨some t3, .call ⟨.value (.func fat), #[.tmp t2, .const (.int .i64 (j : Nat))], ts⟩, y3, p3, e3, none⟩ ::
   (mids ++ [⟨some t7, .fieldAddr T (.tmp Γ.s) k, y7, p7, e7, none⟩, ⟨none, .store ys (.tmp t7) (.tmp tv), y8, p8, e8, none⟩]))) false) i z (fun g => f (g.L.getD j .zero)) (fun g => ok (g.L.getD j .zero)) := by
 intro x v a w hA hC hz0 hokg
 simp only [Bool.and_eq_true, bne_iff_ne] at hs
 obtain ⟨⟨⟨f2, f3⟩, f7⟩, n7v⟩ := hs
 obtain ⟨T0, hb0⟩ := hA.hb
 refine wp_region_lit ?_
 refine Zv rfl (x_loadN (cs := x.ct.toList) (b := x.tblk) (o := 0) (by rw [Array.length_toList, hA.ct]; exact hmT) ?_ (fun j v hv => by rw [Zc hb0, Nat.zero_add]; simpa using hv)) ?_
 ·rw [Ze, hA.tree]
 have hA2 := hA.put f2 (.agg x.ct.toList.toArray)
 have g2 : Act.get (a.put (some t2) (.agg x.ct.toList.toArray)) t2 = .agg x.ct := by rw [Zq (hA.lt f2)]
 generalize a.put (some t2) (.agg x.ct.toList.toArray) = a2 at *
 have ee : (#[Operand.tmp t2, .const (.int .i64 (j : Nat))] : Array Operand).map a2.eval = #[.agg x.ct, .int .i64 (j : Nat)] := by
  simp [Ze, g2]; rfl
 refine wpl_call rfl (Zy hbd rfl) (by rw [ee]; exact hat' hA.mod hA.ct hA.tr) ?_
 rintro e w1 ⟨m1, cs, rfl, hcs, hT⟩
 refine ⟨_, rfl, ?_⟩
 have hA3 := (hA2.new m1).put f3 (.agg cs)
 refine hv _ _ _ x _ w1 cs _ hA3 (Zq (hA2.lt f3)) hcs hT hokg ?_
 intro a' w' hA' hsb hm' hrep
 refine Zv rfl (Za hf (b := x.blk) (o0 := 0) (by rw [Ze, hA'.ptr])) ?_
 have m01 : Mod none' w w' := m1.trans hm'
 refine fst_put (u := f (x.g.L.getD j .zero)) (t7 := t7) (tv := tv) hat hok hsz hot (hA'.put f7 _) hC m01 ?_ ?_ hA ?_
 ·rw [Zq (hA'.lt f7)]
 ·rw [Zn n7v]
  exact hrep.mod (Mod.refl (S := none') w') (fun _ _ f => f) (fun k hk => Fx.nw_mono m1.size hk)
 ·intro a'' w'' h1 h2
  exact ⟨rfl, h1, h2⟩
end
end Go.Proofs.YtmehfgiadapekaaGreat
