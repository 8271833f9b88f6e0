/-
  Rules for the code that sets a list (FnMake).
-/
import Derived.Test.YtmehfgiadapekaaGreatPZh
set_option linter.unusedSimpArgs false
set_option linter.unusedVariables false
namespace Go.Proofs.YtmehfgiadapekaaGreat
open Go Go.RowKit
theorem x_makeRoomN {P : Program} {ρ : Operand -> Value} {w : World} {d : Option Tmp} {ty : TypeId} {p : String} {af : Array Edge} {g : Option (Nat × Bool)} {x y : Operand} {t e n sz : Nat} (hI : elemInfo P t e sz = true) (hx : ρ x = .int .i64 0) (hy : ρ y = .int .i64 n) (hn : n <= 4294967296) :
  ∃ C : Array Value, C.size = n * sz /\ (execOp ρ ⟨d, .makeSlice t x y, ty, p, af, g⟩).run P w = .ok (.value (.slice (some ⟨w.heap.size, 0, none⟩) 0 n)) (w.alloc (.cells C e)) := by
 obtain ⟨hu, i, z, hi, hz, h2, h3, h4, h5, h6⟩ := elemInfo_spec hI
 have hb : (i.bytes : Int) * (n : Int) <= 281474976710656 := by
  have : i.bytes * n <= 1024 * 4294967296 := Nat.mul_le_mul h4 hn
  have h : ((i.bytes * n : Nat) : Int) <= 281474976710656 := by omega
  rwa [Int.natCast_mul] at h
 have hr := run_make (P := P) w t e i z hu hi hz .i64 .i64 0 n (by omega) (by omega) hb (by omega)
 refine ⟨_, ?_, by simp only [execOp, hx, hy, Sem.run_bind, hr, Result.andThen_ok]; rfl⟩
 simp [madeCells, h2]
/-- the cells of a struct, apart from where they lie -/
def CurA (σ : St) (F : Nat -> Prop) (C : Array Value) (v : SV) (w : World) : Prop := 0 + σ.sz <= C.size /\ RepL w F σ.lay (from' C 0) v.1 /\ (match σ.tg with | some o => TagsR w F (from' C 0 o) v.2 | none => v.2 = [])
theorem CurA.mod {σ : St} {F F' S : Nat -> Prop} {C : Array Value} {v : SV} {w w' : World} (h : CurA σ F C v w) (hm : Mod S w w') (hs : ∀ k, F k -> ¬ S k) (hf : ∀ k, F k -> F' k) : CurA σ F' C v w' := by
 obtain ⟨h1, h2, h3⟩ := h
 refine ⟨h1, h2.mod hm hs hf, ?_⟩
 cases htg : σ.tg with
 | none => rw [htg] at h3; exact h3
 | some o => rw [htg] at h3; exact TagsR.mod h3 hm hs hf
theorem CurA.cur {σ : St} {F : Nat -> Prop} {C : Array Value} {v : SV} {w : World} {blk t : Nat} (h : CurA σ F C v w) (hb : w.heap[blk]? = some (.cells C t (0, 0))) : Cur σ F blk 0 v w := ⟨⟨C, t, hb, h.1, h.2.1, h.2.2⟩⟩
theorem rep_ok {ety : Ty} {sz : Nat} (hok : ety.ok = true) (hsz : ety.size = sz) : RlOk (fun w F c (t : Tr) => Rep w F ety c t) sz :=
 ⟨fun h hm hs hf => Rep.mod hm hs hf _ _ _ h, fun h hc => Rep.congr ety _ _ _ hok (fun j hj => hc j (hsz ▸ hj)) h, fun h => Rep.lt ety _ _ h⟩
theorem sub_set {C : Array Value} {o : Nat} {u v : Value} : (C.setIfInBounds o u).setIfInBounds o v = C.setIfInBounds o v := by
 apply Array.ext
 ·simp
 ·intro i h1 h2
  by_cases h : o = i
  ·subst h; simp
  ·simp [Array.getElem_setIfInBounds, h]
/-- a list is being set: so far these -/
structure LS (Γ : Fl) (σ : St) (x : Fx) (o : Nat) (ety : Ty) (sz e B : Nat) (v : SV) (a : Act) (w : World) (done : List Tr) : Prop where
 fa : FA Γ x a w
 mem : ∃ C t g cap lrow, w.heap[x.blk]? = some (.cells C t (0, 0)) /\ C[0 + o]? = some (.slice (some ⟨g, 0, none⟩) done.length cap) /\ CurA σ (fun k => x.F k /\ k < B) (C.setIfInBounds (0 + o) (.slice none 0 0)) v w /\
  RowG (fun w F c (t : Tr) => Rep w F ety c t) e sz B (fun k => x.F k /\ k < B) w (.slice (some ⟨g, 0, none⟩) done.length cap) lrow done
 lo : B <= w.heap.size /\ x.blk < B /\ x.tblk < B /\ x.e <= B /\ x.w0.heap.size <= B
section
variable {P : Program} {Γ : Fl} {σ : St} {x : Fx} {i j o sz e B : Nat} {ety : Ty} {v : SV} {a a' : Act} {w w' : World} {done : List Tr}
theorem LS.same (h : LS Γ σ x o ety sz e B v a w done) {S : Nat -> Prop} (hs : SameBut S a a') (h1 : ¬ S Γ.tb) (h2 : ¬ S Γ.s) (h3 : ∀ q, Γ.r = some q -> ¬ S q) : LS Γ σ x o ety sz e B v a' w done := ⟨h.fa.same hs h1 h2 h3, h.mem, h.lo⟩
theorem LS.put (h : LS Γ σ x o ety sz e B v a w done) {t : Nat} (ht : Γ.free t = true) (u : Value) : LS Γ σ x o ety sz e B v (a.put (some t) u) w done := ⟨h.fa.put ht u, h.mem, h.lo⟩
theorem LS.new (hr : ety.ok = true) (hsz : ety.size = sz) (h : LS Γ σ x o ety sz e B v a w done) (hm : Mod none' w w') : LS Γ σ x o ety sz e B v a w' done := by
 obtain ⟨C, t, g, cap, lrow, h1, h2, h3, h4⟩ := h.mem
 exact ⟨h.fa.new hm, ⟨C, t, g, cap, lrow, hm.some h1 (fun f => f), h2, h3.mod hm (fun _ _ f => f) (fun _ h => h), h4.grow (rep_ok hr hsz) hm⟩, Nat.le_trans h.lo.1 hm.size, h.lo.2⟩
/-- the list is whole -/
theorem LS.fin (hr : ety.ok = true) (hsz : ety.size = sz) (hat : σ.lay.at i = some (o, .list ety sz)) (hok : σ.okAt i o (.list ety sz) = true) (hlen : done.length <= 4294967295) (h : LS Γ σ x o ety sz e B v a w done) : Cur σ x.F x.blk 0 (v.1.set i (.list done false), v.2) w := by
 obtain ⟨C, t, g, cap, lrow, h1, h2, ⟨h3, h4, h5⟩, h6⟩ := h.mem
 obtain ⟨l1, l2, l3, l4, l5⟩ := h.lo
 simp only [St.okAt, Bool.and_eq_true] at hok
 have htg : ∀ q, σ.tg = some q -> q < σ.sz /\ (q < o \/ o + (Ty.list ety sz).size <= q) := fun q hq => by
  have := hok.1.2
  rw [hq] at this
  simpa using this
 have hsame : ∀ q, q < o \/ o + 1 <= q -> from' C 0 q = from' (C.setIfInBounds (0 + o) (.slice none 0 0)) 0 q := fun q hq => by
  simp only [from', Array.getD_eq_getD_getElem?]
  rw [Array.getElem?_setIfInBounds_ne (by omega)]
 have hF : ∀ k, x.F k /\ k < B -> x.F k := fun _ h => h.1
 have hnew : ∀ k, (x.F k /\ k < B) \/ B <= k -> x.F k := fun k hk => by
  rcases hk with hk | hk
  ·exact hk.1
  ·exact ⟨.inr (by omega), by omega, by omega⟩
 refine ⟨C, t, h1, by simpa using h3, ?_, ?_⟩
 ·refine RepL.set σ.lay 0 σ.sz i o (.list ety sz) (from' (C.setIfInBounds (0 + o) (.slice none 0 0)) 0) _ v.1 (.list done false) hok.1.1 hat (fun q _ _ hq => hsame q hq) ?_ (h4.mod (Mod.refl (S := none') w) (fun _ _ f => f) hF)
  simp only [Rep]
  refine .inr ⟨done, fun i j => lrow.getD (i * sz + j) undef, ?_, hlen, fun i hi => Rep.mod (Mod.refl (S := none') w) (fun _ _ f => f) hnew _ _ _ (h6.el (rep_ok hr hsz) i hi), rfl⟩
  have hcell : from' C 0 (o + 0) = .slice (some ⟨g, 0, none⟩) done.length cap := by rw [Nat.add_zero]; exact get_from' h2
  rw [hcell]
  rcases h6.own.2 with ⟨hv, _⟩ | ⟨g', cap', cur, hv, hb, hg, hnc, hcm, hsz', htk⟩
  ·cases hv
  ·obtain ⟨rfl, rfl⟩ : g = g' /\ cap = cap' := by simpa using hv
   refine ⟨g, cap, cur, e, hnew g (.inr hb), rfl, hnc, hcm, hg, hsz', fun i hi j hj => ?_⟩
   have hij : i * sz + j < done.length * sz := by
    have := Nat.mul_le_mul_right sz (show i + 1 <= done.length by omega)
    rw [Nat.add_mul] at this; omega
   have hle : done.length * sz <= cap * sz := Nat.mul_le_mul_right _ hnc
   have : lrow[i * sz + j]? = cur[i * sz + j]? := by rw [<- htk, List.getElem?_take, if_pos hij, Array.getElem?_toList]
   show cur[i * sz + j]? = some (lrow.getD (i * sz + j) undef)
   rw [List.getD_eq_getElem?_getD, this, Array.getElem?_eq_getElem (by omega)]
   rfl
 ·cases hq : σ.tg with
  | none => rw [hq] at h5; exact h5
  | some q =>
   rw [hq] at h5
   obtain ⟨q1, q2⟩ := htg q hq
   show TagsR w x.F (from' C 0 q) v.2
   rw [hsame q q2]
   exact TagsR.mod h5 (Mod.refl (S := none') w) (fun _ _ f => f) hF
/-- one thing more was put behind, and the slice is stored -/
theorem LS.push {y : Tr} {C : Array Value} {t g cap : Nat} {v' : Value} {lrow' : List Value} (hot : Γ.off o 1 = true) (hr : ety.ok = true) (hsz : ety.size = sz) (h : LS Γ σ x o ety sz e B v a w done) (h1 : w.heap[x.blk]? = some (.cells C t (0, 0))) (h2 : C[0 + o]? = some (.slice (some ⟨g, 0, none⟩) done.length cap))
  (hm : Mod (fun k => k = g /\ B <= k) w w') (hG : RowG (fun w F c (t : Tr) => Rep w F ety c t) e sz B (fun k => x.F k /\ k < B) w' v' lrow' (done ++ [y])) (hnn : ∃ g cap, v' = .slice (some ⟨g, 0, none⟩) (done ++ [y]).length cap) (hA : FA Γ x a' w') :
  LS Γ σ x o ety sz e B v a' (w'.setCell ⟨x.blk, 0 + o, none⟩ v') (done ++ [y]) := by
 obtain ⟨C0, t0, g0, cap0, lrow0, k1, k2, k3, k4⟩ := h.mem
 rw [h1] at k1
 obtain ⟨rfl, rfl⟩ : C = C0 /\ t = t0 := by simpa using k1
 obtain ⟨l1, l2, l3, l4, l5⟩ := h.lo
 obtain ⟨g', cap', rfl⟩ := hnn
 have hlt : 0 + o < C.size := by
  rcases Nat.lt_or_ge (0 + o) C.size with h | h
  ·exact h
  ·rw [Array.getElem?_eq_none h] at h2; cases h2
 have h1' := hm.some h1 (fun e => by omega)
 have m2 : Mod (only x.blk) w' (w'.setCell ⟨x.blk, 0 + o, none⟩ (.slice (some ⟨g', 0, none⟩) (done ++ [y]).length cap')) := (Mod.refl w').put _ _
 have hsz1 := hm.size
 have hsz2 := m2.size
 refine ⟨hA.store m2 (fun C2 t2 hC2 => by
  rw [h1'] at hC2
  obtain ⟨rfl, rfl⟩ : C = C2 /\ t = t2 := by simpa using hC2
  refine ⟨_, heap_setCell_same h1' _, fun q hq => ?_⟩
  have := Fl.off_spec hot q hq
  rw [Array.getElem?_setIfInBounds_ne (by omega)]), ⟨_, t, g', cap', lrow', heap_setCell_same h1' _, by rw [Array.getElem?_setIfInBounds, if_pos rfl, if_pos hlt], ?_, hG.mod (rep_ok hr hsz) m2 (fun k e => by have e' : k = x.blk := e; subst e'; exact ⟨fun f => f.1.2.1 rfl, l2⟩)⟩, by omega, l2, l3, l4, l5⟩
 rw [sub_set]
 exact (k3.mod hm (fun k hk e => by omega) (fun _ h => h)).mod m2 (fun k hk e => hk.1.2.1 e) (fun _ h => h)
/-- a piece of code that puts the next thing behind -/
def AppE (P : Program) (Γ : Fl) (σ : St) (c : Code) (bx o : Nat) (ety : Ty) (sz e : Nat) (E : Tr -> Tr) (oke : Tr -> Prop) : Prop :=
 ∀ (x : Fx) (v : SV) (a : Act) (w : World) (B : Nat) (done : List Tr) (cs : Array Value) (y : Tr) (xb T : Nat), LS Γ σ x o ety sz e B v a w done -> Act.get a bx = .pointer (some ⟨xb, 0, none⟩) -> w.heap[xb]? = some (.cells cs T (0, 0)) -> (∀ C t g cap, w.heap[x.blk]? = some (.cells C t (0, 0)) -> C[0 + o]? = some (.slice (some ⟨g, 0, none⟩) done.length cap) -> xb ≠ g) -> cs.size = 5 -> TreeI x.w0 (from' cs 0) y -> oke y -> done.length < 32767 ->
  c.wp P (fun e' a' w' => e' = .normal /\ LS Γ σ x o ety sz e B v a' w' (done ++ [E y]) /\ SameBut (W c) a a') a w
/-- the slice is made -/
def MkC (P : Program) (Γ : Fl) (σ : St) (c : Code) (i j o : Nat) (ety : Ty) (sz e : Nat) : Prop :=
 ∀ (x : Fx) (v : SV) (a : Act) (w : World), FA Γ x a w -> Cur σ x.F x.blk 0 v w -> v.1[i]? = some .nul -> (x.g.L.getD j .zero).L.length <= 32767 -> c.wp P (fun e' a' w' => e' = .normal /\ ∃ B, LS Γ σ x o ety sz e B v a' w' []) a w
end
section
variable {P : Program} {Γ : Fl} {σ : St} {i j o k sz e T TT LT L5 fat t1 t2 t3 t4 t5 t6 t7 t8 : Nat} {ety : Ty} {E : Tr -> Tr} {oke : Tr -> Prop} {id i0 i1 i2 i3 i4 b0 b1 : Nat}
 {y1 y2 y3 y4 y5 y6 y7 y8 y9 ya yb yc yd : TypeId} {p1 p2 p3 p4 p5 p6 p7 p8 p9 pa pb pc : String} {e1 e2 e3 e4 e5 e6 e7 e8 e9 : Array Edge} {ts ts2 : Array TypeId}
/-- the slice that was made is stored -/
theorem mk_put {all : Array Oper} {Q : Exit -> Act -> World -> Prop} {x : Fx} {v : SV} {a b : Act} {w w1 : World} {n : Nat} {Cn : Array Value} (hI : elemInfo P LT e sz = true) (hat : σ.lay.at i = some (o, .list ety sz)) (hok : σ.okAt i o (.list ety sz) = true) (hsz : sized P LT 1 = true) (hot : Γ.off o 1 = true) (hAw : FA Γ x b w) (hA : FA Γ x a (w1.alloc (.cells Cn e))) (hC : Cur σ x.F x.blk 0 v w) (hz : v.1[i]? = some .nul)
  (hm : Mod none' w w1) (hCn : Cn.size = n * sz) (hn : n <= 4294967296) (h8 : Act.get a t8 = .pointer (some ⟨x.blk, 0 + o, none⟩)) (h6 : Act.get a t6 = .slice (some ⟨w1.heap.size, 0, none⟩) 0 n) (hQ : ∀ a' w' B, LS Γ σ x o ety sz e B v a' w' [] -> Q .normal a' w') :
  wpList P all Q [⟨none, .store LT (.tmp t8) (.tmp t6), y9, p9, e9, none⟩] a (w1.alloc (.cells Cn e)) := by
 obtain ⟨C0, t0, h0, h2, h3, h4⟩ := hC.lt.mem
 have hbw := lt_of_block h0
 have htw := hAw.tlt
 have m2 : Mod none' w1 (w1.alloc (.cells Cn e)) := (Mod.refl w1).alloc _
 have gn := Zh w1 (.cells Cn e)
 have hs2 : (w1.alloc (.cells Cn e)).heap.size = w1.heap.size + 1 := by simp
 generalize hw2 : w1.alloc (.cells Cn e) = w2 at *
 have h1 := (hm.trans m2).some h0 (fun f => f)
 have hs1 := hm.size
 simp only [St.okAt, Bool.and_eq_true] at hok
 have hin := Lay.at_in _ _ _ _ _ _ hok.1.1 hat
 simp only [Ty.size] at hin
 have hlt : 0 + o < C0.size := by omega
 -- what lay there is none
 have hnil : C0[0 + o]? = some (.slice none 0 0) := by
  obtain ⟨u, hu, hrep⟩ := RepL.get _ _ _ _ _ _ hat h3
  rw [hz] at hu
  obtain rfl := Option.some.inj hu
  simp only [Rep] at hrep
  rcases hrep with ⟨hv, _⟩ | ⟨l, f, _, _, _, hl⟩
  ·rw [Array.getElem?_eq_getElem hlt]
   have : from' C0 0 (o + 0) = C0[0 + o] := get_from' (by rw [Array.getElem?_eq_getElem (by omega)]; rfl)
   rw [<- this, hv]
  ·simp [Tr.list, Tr.nul] at hl
 refine wpl_skip rfl (x_store1 hsz (b := x.blk) (o := 0 + o) (v := .slice (some ⟨w1.heap.size, 0, none⟩) 0 n) (by rw [Ze, h8]) (by rw [Ze, h6]) rfl (by rw [Zc h1, hnil]) (Zz h1)) (wpList_nil ?_)
 rw [Zo]
 have m3 : Mod (only x.blk) w2 (w2.setCell ⟨x.blk, 0 + o, none⟩ (.slice (some ⟨w1.heap.size, 0, none⟩) 0 n)) := (Mod.refl w2).put _ _
 have hl := hAw.lo
 have hent := hAw.ent
 have hmz := hAw.mod.size
 refine hQ _ _ w1.heap.size ⟨hA.store m3 (fun C2 t2 hC2 => by
  rw [h1] at hC2
  obtain ⟨rfl, rfl⟩ : C0 = C2 /\ t0 = t2 := by simpa using hC2
  refine ⟨_, heap_setCell_same h1 _, fun q hq => ?_⟩
  have := Fl.off_spec hot q hq
  rw [Array.getElem?_setIfInBounds_ne (by omega)]), ⟨_, t0, w1.heap.size, n, [], heap_setCell_same h1 _, by rw [Array.getElem?_setIfInBounds, if_pos rfl, if_pos hlt]; rfl, ?_, ?_, fun i hi => by simp at hi⟩, by have := m3.size; omega, by omega, by omega, by omega, by omega⟩
 ·rw [sub_set]
  have hsame : C0.setIfInBounds (0 + o) (.slice none 0 0) = C0 := by
   apply Array.ext
   ·simp
   ·intro q q1 q2
    by_cases hq : 0 + o = q
    ·subst hq
     rw [Array.getElem?_eq_getElem hlt] at hnil
     simp only [Array.getElem_setIfInBounds_self]
     exact (Option.some.inj hnil).symm
    ·rw [Array.getElem_setIfInBounds, if_neg hq]
  rw [hsame]
  have hc : CurA σ (fun k => x.F k /\ k < w.heap.size) C0 v w := ⟨h2, h3, h4⟩
  exact ((hc.mod (hm.trans m2) (fun _ _ f => f) (fun k hk => ⟨hk.1, by omega⟩)).mod m3 (fun k hk e => hk.1.2.1 e) (fun _ h => h))
 ·refine ⟨by simp, .inr ⟨w1.heap.size, n, Cn, rfl, Nat.le_refl _, m3.some gn (fun e => by have e' : w1.heap.size = x.blk := e; omega), by simp, by simp only [maxLen]; omega, hCn, by simp⟩⟩
theorem mk_fill (hat' : AtC P fat) (hbd : bodied P fat = true) (hmT : many P TT 5 = true) (h3f : fldOne P TT 3 3 = true) (h5 : (elemSize P L5).isSome = true) (hts : ts2[0]? = some L5) (hI : elemInfo P LT e sz = true) (hsz : sized P LT 1 = true) (hot : Γ.off o 1 = true) (hat : σ.lay.at i = some (o, .list ety sz)) (hok : σ.okAt i o (.list ety sz) = true) (hf : fieldOff P T k = some o)
  (hs : (Γ.free t1 && Γ.free t2 && Γ.free t3 && Γ.free t4 && Γ.free t5 && Γ.free t6 && Γ.free t7 && Γ.free t8 && t1 != t2 && t1 != t3 && t1 != t4 && t1 != t5 && t1 != t6 && t6 != t7 && t6 != t8) = true) :
  MkC P Γ σ (.region id #[⟨some t1, .move (.tmp Γ.s), y1, p1, e1, none⟩, ⟨some t2, .load TT (.tmp Γ.tb), y2, p2, e2, none⟩, ⟨some t3, .call ⟨.value (.func fat), #[.tmp t2, .const (.int .i64 (j : Nat))], ts⟩, y3, p3, e3, none⟩, ⟨some t4, .field TT (.tmp t3) 3, y4, p4, e4, none⟩,
   ⟨some t5, .call ⟨.builtin .len, #[.tmp t4], ts2⟩, y5, p5, e5, none⟩, ⟨some t6, .makeSlice LT (.const (.int .i64 0)) (.tmp t5), y6, p6, e6, none⟩, ⟨some t7, .nilCheck (.tmp t1), y7, p7, e7, none⟩, ⟨some t8, .fieldAddr T (.tmp t7) k, y8, p8, e8, none⟩, ⟨none, .store LT (.tmp t8) (.tmp t6), y9, p9, e9, none⟩] false) i j o ety sz e := by
 intro x v a w hA hC hz hlen
 simp only [Bool.and_eq_true, bne_iff_ne] at hs
 obtain ⟨⟨⟨⟨⟨⟨⟨⟨⟨⟨⟨⟨⟨⟨f1, f2⟩, f3⟩, f4⟩, f5⟩, f6⟩, f7⟩, f8⟩, n12⟩, n13⟩, n14⟩, n15⟩, n16⟩, n67⟩, n68⟩ := hs
 obtain ⟨T0, hb0⟩ := hA.hb
 refine wp_region_lit ?_
 refine Zv rfl Zm (Zv rfl (x_loadN (cs := x.ct.toList) (b := x.tblk) (o := 0) (by rw [Array.length_toList, hA.ct]; exact hmT) ?_ (fun j v hv => by rw [Zc hb0, Nat.zero_add]; simpa using hv)) ?_)
 ·rw [Ze, Zn (Fl.free_spec f1).2.1, hA.tree]
 have hA2 := (hA.put f1 (a.eval (.tmp Γ.s))).put f2 (.agg x.ct.toList.toArray)
 have g1 : Act.get ((a.put (some t1) (a.eval (.tmp Γ.s))).put (some t2) (.agg x.ct.toList.toArray)) t1 = .pointer (some ⟨x.blk, 0, none⟩) := by rw [Zn (Ne.symm n12), Zq (hA.lt f1), Ze, hA.ptr]
 have g2 : Act.get ((a.put (some t1) (a.eval (.tmp Γ.s))).put (some t2) (.agg x.ct.toList.toArray)) t2 = .agg x.ct := by rw [Zq (by rw [Zs]; exact hA.lt f2)]
 generalize (a.put (some t1) (a.eval (.tmp Γ.s))).put (some t2) (.agg x.ct.toList.toArray) = a2 at *
 have ee : (#[Operand.tmp t2, .const (.int .i64 (j : Nat))] : Array Operand).map a2.eval = #[.agg x.ct, .int .i64 (j : Nat)] := by
  simp [Ze, g2]; rfl
 refine wpl_call rfl (Zy hbd rfl) (by rw [ee]; exact hat' hA.mod hA.ct hA.tr) ?_
 rintro e' w1 ⟨m1, cs, rfl, hcs, hT⟩
 obtain ⟨sv, lv, uv, f, g, rfl, hn, hS, hL, hLs, _⟩ := tree_cells hT hcs
 obtain ⟨ao, cap, hlv⟩ := hL.slice
 obtain ⟨n, hnn⟩ : ∃ n, n = (x.g.L.getD j .zero).L.length := ⟨_, rfl⟩
 rw [<- hnn] at hlv hlen
 refine ⟨_, rfl, Zv rfl (x_fieldO (v := lv) h3f (by rw [Ze, Zq (hA2.lt f3)]) rfl) (Zv rfl (x_len h5 hts (ao := ao) (cap := cap) (n := n) ?_) ?_)⟩
 ·rw [Ze, Zq (by rw [Zs]; exact hA2.lt f4), hlv]
 refine wpl_abs (fun b : Act => FA Γ x b w1 /\ Act.get b t1 = .pointer (some ⟨x.blk, 0, none⟩) /\ Act.get b t5 = .int .i64 (n : Nat)) ⟨(((hA2.new m1).put f3 _).put f4 _).put f5 _, ?_, ?_⟩ ?_
 ·rw [Zn (Ne.symm n15), Zn (Ne.symm n14), Zn (Ne.symm n13), g1]
 ·rw [Zq (by simp only [Zs]; exact hA2.lt f5)]
 rintro b ⟨hB, b1', b5'⟩
 obtain ⟨Cn, hCn, hrun⟩ := x_makeRoomN (P := P) (ρ := b.eval) (w := w1) (d := some t6) (ty := y6) (p := p6) (af := e6) (g := none) (x := .const (.int .i64 0)) (y := .tmp t5) (n := n) hI rfl (by rw [Ze]; exact b5') (by omega)
 have m2 : Mod none' w1 (w1.alloc (.cells Cn e)) := (Mod.refl w1).alloc _
 refine Zv rfl hrun (Zv rfl (x_nilCheck (q := ⟨x.blk, 0, none⟩) ?_) (Zv rfl (Za hf (b := x.blk) (o0 := 0) ?_) ?_))
 ·rw [Ze, Zn (Ne.symm n16), b1']
 ·rw [Ze, Zq (by rw [Zs]; exact hB.lt f7)]
 refine mk_put (t6 := t6) (t8 := t8) (n := n) hI hat hok hsz hot hA ((((hB.new m2).put f6 _).put f7 _).put f8 _) hC hz m1 hCn (by omega) ?_ ?_ (fun a' w' B h => ⟨rfl, B, h⟩)
 ·rw [Zq (by simp only [Zs]; exact hB.lt f8)]
 ·rw [Zn (Ne.symm n68), Zn (Ne.symm n67), Zq (hB.lt f6)]
theorem mk_make (hat' : AtC P fat) (hbd : bodied P fat = true) (hmT : many P TT 5 = true) (h3f : fldOne P TT 3 3 = true) (h5 : (elemSize P L5).isSome = true) (hts : ts2[0]? = some L5) (hI : elemInfo P LT e sz = true) (hsz : sized P LT 1 = true) (hot : Γ.off o 1 = true) (hat : σ.lay.at i = some (o, .list ety sz)) (hok : σ.okAt i o (.list ety sz) = true) (hf : fieldOff P T k = some o)
  (hs : (Γ.free t2 && Γ.free t3 && Γ.free t4 && Γ.free t5 && Γ.free t6 && Γ.free t8 && t6 != t8) = true) :
  MkC P Γ σ (.region id #[⟨some t2, .load TT (.tmp Γ.tb), y2, p2, e2, none⟩, ⟨some t3, .call ⟨.value (.func fat), #[.tmp t2, .const (.int .i64 (j : Nat))], ts⟩, y3, p3, e3, none⟩, ⟨some t4, .field TT (.tmp t3) 3, y4, p4, e4, none⟩,
   ⟨some t5, .call ⟨.builtin .len, #[.tmp t4], ts2⟩, y5, p5, e5, none⟩, ⟨some t6, .makeSlice LT (.const (.int .i64 0)) (.tmp t5), y6, p6, e6, none⟩, ⟨some t8, .fieldAddr T (.tmp Γ.s) k, y8, p8, e8, none⟩, ⟨none, .store LT (.tmp t8) (.tmp t6), y9, p9, e9, none⟩] false) i j o ety sz e := by
 intro x v a w hA hC hz hlen
 simp only [Bool.and_eq_true, bne_iff_ne] at hs
 obtain ⟨⟨⟨⟨⟨⟨f2, f3⟩, f4⟩, f5⟩, f6⟩, f8⟩, n68⟩ := hs
 obtain ⟨T0, hb0⟩ := hA.hb
 refine wp_region_lit ?_
 refine Zv rfl (x_loadN (cs := x.ct.toList) (b := x.tblk) (o := 0) (by rw [Array.length_toList, hA.ct]; exact hmT) ?_ (fun j v hv => by rw [Zc hb0, Nat.zero_add]; simpa using hv)) ?_
 ·rw [Ze, hA.tree]
 have hA2 := hA.put f2 (.agg x.ct.toList.toArray)
 have g2 : Act.get (a.put (some t2) (.agg x.ct.toList.toArray)) t2 = .agg x.ct := by rw [Zq (hA.lt f2)]
 generalize a.put (some t2) (.agg x.ct.toList.toArray) = a2 at *
 have ee : (#[Operand.tmp t2, .const (.int .i64 (j : Nat))] : Array Operand).map a2.eval = #[.agg x.ct, .int .i64 (j : Nat)] := by
  simp [Ze, g2]; rfl
 refine wpl_call rfl (Zy hbd rfl) (by rw [ee]; exact hat' hA.mod hA.ct hA.tr) ?_
 rintro e' w1 ⟨m1, cs, rfl, hcs, hT⟩
 obtain ⟨sv, lv, uv, f, g, rfl, hn, hS, hL, hLs, _⟩ := tree_cells hT hcs
 obtain ⟨ao, cap, hlv⟩ := hL.slice
 obtain ⟨n, hnn⟩ : ∃ n, n = (x.g.L.getD j .zero).L.length := ⟨_, rfl⟩
 rw [<- hnn] at hlv hlen
 refine ⟨_, rfl, Zv rfl (x_fieldO (v := lv) h3f (by rw [Ze, Zq (hA2.lt f3)]) rfl) (Zv rfl (x_len h5 hts (ao := ao) (cap := cap) (n := n) ?_) ?_)⟩
 ·rw [Ze, Zq (by rw [Zs]; exact hA2.lt f4), hlv]
 refine wpl_abs (fun b : Act => FA Γ x b w1 /\ Act.get b t5 = .int .i64 (n : Nat)) ⟨(((hA2.new m1).put f3 _).put f4 _).put f5 _, ?_⟩ ?_
 ·rw [Zq (by simp only [Zs]; exact hA2.lt f5)]
 rintro b ⟨hB, b5'⟩
 obtain ⟨Cn, hCn, hrun⟩ := x_makeRoomN (P := P) (ρ := b.eval) (w := w1) (d := some t6) (ty := y6) (p := p6) (af := e6) (g := none) (x := .const (.int .i64 0)) (y := .tmp t5) (n := n) hI rfl (by rw [Ze]; exact b5') (by omega)
 have m2 : Mod none' w1 (w1.alloc (.cells Cn e)) := (Mod.refl w1).alloc _
 refine Zv rfl hrun (Zv rfl (Za hf (b := x.blk) (o0 := 0) ?_) ?_)
 ·rw [Ze]; exact ((hB.new m2).put f6 _).ptr
 refine mk_put (t6 := t6) (t8 := t8) (n := n) hI hat hok hsz hot hA (((hB.new m2).put f6 _).put f8 _) hC hz m1 hCn (by omega) ?_ ?_ (fun a' w' B h => ⟨rfl, B, h⟩)
 ·rw [Zq (by simp only [Zs]; exact hB.lt f8)]
 ·rw [Zn (Ne.symm n68), Zq (hB.lt f6)]
end
end Go.Proofs.YtmehfgiadapekaaGreat
