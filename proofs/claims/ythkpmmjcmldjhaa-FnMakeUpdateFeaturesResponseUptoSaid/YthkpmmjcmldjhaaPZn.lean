/-
  Rules for the code that sets a list (FnMake).
  Rules for the code that sets a list (FnMake): one thing more.
  Rules for the code that sets a message's fields (FnMake): lists, tags, one field after another, the whole.
-/
import Derived.Test.YthkpmmjcmldjhaaPZh
set_option linter.unusedSimpArgs false
set_option linter.unusedVariables false
namespace Go.Proofs.Ythkpmmjcmldjhaa
open Go Go.RowKit
/-- the cells of a struct, apart from where they lie -/
def CurA (σ : St) (F : Nat -> Prop) (C : Array Value) (v : SV) (w : World) : Prop := 0 + σ.sz <= C.size /\ RepL w F σ.lay (from' C 0) v.1 /\ (match σ.tg with | some o => TagsR w F (from' C 0 o) v.2 | none => v.2 = [])
theorem CurA.mod {σ : St} {F F' S : Nat -> Prop} {C : Array Value} {v : SV} {w w' : World} (h : CurA σ F C v w) (hm : Mod S w w') (hs : ∀ k, F k -> ¬ S k) (hf : ∀ k, F k -> F' k) : CurA σ F' C v w' := by
 obtain ⟨h1, h2, h3⟩ := h
 refine ⟨h1, h2.mod hm hs hf, ?_⟩
 cases htg : σ.tg with
 | none => rw [htg] at h3; exact h3
 | some o => rw [htg] at h3; exact TagsR.mod h3 hm hs hf
theorem CurA.cur {σ : St} {F : Nat -> Prop} {C : Array Value} {v : SV} {w : World} {blk t : Nat} (h : CurA σ F C v w) (hb : w.heap[blk]? = some (.cells C t (0, 0))) : Cur σ F blk 0 v w := ⟨⟨C, t, hb, h.1, h.2.1, h.2.2⟩⟩
theorem rep_ok {ety : Ty} {sz : Nat} (hok : ety.ok = true) (hsz : ety.size = sz) : RlOk (fun w F c (t : Tr) => Rep w F ety c t) sz :=
 ⟨fun h hm hs hf => Rep.mod hm hs hf _ _ _ h, fun h hc => Rep.congr ety _ _ _ hok (fun j hj => hc j (hsz ▸ hj)) h, fun h => Rep.lt ety _ _ h⟩
theorem sub_set {C : Array Value} {o : Nat} {u v : Value} : (C.setIfInBounds o u).setIfInBounds o v = C.setIfInBounds o v := by
 apply Array.ext
 ·simp
 ·intro i h1 h2
  by_cases h : o = i
  ·subst h; simp
  ·simp [Array.getElem_setIfInBounds, h]
/-- a list is being set: so far these -/
structure LS (Γ : Fl) (σ : St) (x : Fx) (o : Nat) (ety : Ty) (sz e B : Nat) (v : SV) (a : Act) (w : World) (done : List Tr) : Prop where
 fa : FA Γ x a w
 mem : ∃ C t g cap lrow, w.heap[x.blk]? = some (.cells C t (0, 0)) /\ C[0 + o]? = some (.slice (some ⟨g, 0, none⟩) done.length cap) /\ CurA σ (fun k => x.F k /\ k < B) (C.setIfInBounds (0 + o) (.slice none 0 0)) v w /\
  RowG (fun w F c (t : Tr) => Rep w F ety c t) e sz B (fun k => x.F k /\ k < B) w (.slice (some ⟨g, 0, none⟩) done.length cap) lrow done
 lo : B <= w.heap.size /\ x.blk < B /\ x.tblk < B /\ x.e <= B /\ x.w0.heap.size <= B
section
variable {P : Program} {Γ : Fl} {σ : St} {x : Fx} {i j o sz e B : Nat} {ety : Ty} {v : SV} {a a' : Act} {w w' : World} {done : List Tr}
theorem LS.same (h : LS Γ σ x o ety sz e B v a w done) {S : Nat -> Prop} (hs : SameBut S a a') (h1 : ¬ S Γ.tb) (h2 : ¬ S Γ.s) (h3 : ∀ q, Γ.r = some q -> ¬ S q) : LS Γ σ x o ety sz e B v a' w done := ⟨h.fa.same hs h1 h2 h3, h.mem, h.lo⟩
theorem LS.put (h : LS Γ σ x o ety sz e B v a w done) {t : Nat} (ht : Γ.free t = true) (u : Value) : LS Γ σ x o ety sz e B v (a.put (some t) u) w done := ⟨h.fa.put ht u, h.mem, h.lo⟩
theorem LS.new (hr : ety.ok = true) (hsz : ety.size = sz) (h : LS Γ σ x o ety sz e B v a w done) (hm : Mod none' w w') : LS Γ σ x o ety sz e B v a w' done := by
 obtain ⟨C, t, g, cap, lrow, h1, h2, h3, h4⟩ := h.mem
 exact ⟨h.fa.new hm, ⟨C, t, g, cap, lrow, hm.some h1 (fun f => f), h2, h3.mod hm (fun _ _ f => f) (fun _ h => h), h4.grow (rep_ok hr hsz) hm⟩, Nat.le_trans h.lo.1 hm.size, h.lo.2⟩
/-- the list is whole -/
theorem LS.fin (hr : ety.ok = true) (hsz : ety.size = sz) (hat : σ.lay.at i = some (o, .list ety sz)) (hok : σ.okAt i o (.list ety sz) = true) (hlen : done.length <= 4294967295) (h : LS Γ σ x o ety sz e B v a w done) : Cur σ x.F x.blk 0 (v.1.set i (.list done false), v.2) w := by
 obtain ⟨C, t, g, cap, lrow, h1, h2, ⟨h3, h4, h5⟩, h6⟩ := h.mem
 obtain ⟨l1, l2, l3, l4, l5⟩ := h.lo
 simp only [St.okAt, Bool.and_eq_true] at hok
 have htg : ∀ q, σ.tg = some q -> q < σ.sz /\ (q < o \/ o + (Ty.list ety sz).size <= q) := fun q hq => by
  have := hok.1.2
  rw [hq] at this
  simpa using this
 have hsame : ∀ q, q < o \/ o + 1 <= q -> from' C 0 q = from' (C.setIfInBounds (0 + o) (.slice none 0 0)) 0 q := fun q hq => by
  simp only [from', Array.getD_eq_getD_getElem?]
  rw [Array.getElem?_setIfInBounds_ne (by omega)]
 have hF : ∀ k, x.F k /\ k < B -> x.F k := fun _ h => h.1
 have hnew : ∀ k, (x.F k /\ k < B) \/ B <= k -> x.F k := fun k hk => by
  rcases hk with hk | hk
  ·exact hk.1
  ·exact ⟨.inr (by omega), by omega, by omega⟩
 refine ⟨C, t, h1, by simpa using h3, ?_, ?_⟩
 ·refine RepL.set σ.lay 0 σ.sz i o (.list ety sz) (from' (C.setIfInBounds (0 + o) (.slice none 0 0)) 0) _ v.1 (.list done false) hok.1.1 hat (fun q _ _ hq => hsame q hq) ?_ (h4.mod (Mod.refl (S := none') w) (fun _ _ f => f) hF)
  simp only [Rep]
  refine .inr ⟨done, fun i j => lrow.getD (i * sz + j) undef, ?_, hlen, fun i hi => Rep.mod (Mod.refl (S := none') w) (fun _ _ f => f) hnew _ _ _ (h6.el (rep_ok hr hsz) i hi), rfl⟩
  have hcell : from' C 0 (o + 0) = .slice (some ⟨g, 0, none⟩) done.length cap := by rw [Nat.add_zero]; exact get_from' h2
  rw [hcell]
  rcases h6.own.2 with ⟨hv, _⟩ | ⟨g', cap', cur, hv, hb, hg, hnc, hcm, hsz', htk⟩
  ·cases hv
  ·obtain ⟨rfl, rfl⟩ : g = g' /\ cap = cap' := by simpa using hv
   refine ⟨g, cap, cur, e, hnew g (.inr hb), rfl, hnc, hcm, hg, hsz', fun i hi j hj => ?_⟩
   have hij : i * sz + j < done.length * sz := by
    have := Nat.mul_le_mul_right sz (show i + 1 <= done.length by omega)
    rw [Nat.add_mul] at this; omega
   have hle : done.length * sz <= cap * sz := Nat.mul_le_mul_right _ hnc
   have : lrow[i * sz + j]? = cur[i * sz + j]? := by rw [<- htk, List.getElem?_take, if_pos hij, Array.getElem?_toList]
   show cur[i * sz + j]? = some (lrow.getD (i * sz + j) undef)
   rw [List.getD_eq_getElem?_getD, this, Array.getElem?_eq_getElem (by omega)]
   rfl
 ·cases hq : σ.tg with
  | none => rw [hq] at h5; exact h5
  | some q =>
   rw [hq] at h5
   obtain ⟨q1, q2⟩ := htg q hq
   show TagsR w x.F (from' C 0 q) v.2
   rw [hsame q q2]
   exact TagsR.mod h5 (Mod.refl (S := none') w) (fun _ _ f => f) hF
/-- one thing more was put behind, and the slice is stored -/
theorem LS.push {y : Tr} {C : Array Value} {t g cap : Nat} {v' : Value} {lrow' : List Value} (hot : Γ.off o 1 = true) (hr : ety.ok = true) (hsz : ety.size = sz) (h : LS Γ σ x o ety sz e B v a w done) (h1 : w.heap[x.blk]? = some (.cells C t (0, 0))) (h2 : C[0 + o]? = some (.slice (some ⟨g, 0, none⟩) done.length cap))
  (hm : Mod (fun k => k = g /\ B <= k) w w') (hG : RowG (fun w F c (t : Tr) => Rep w F ety c t) e sz B (fun k => x.F k /\ k < B) w' v' lrow' (done ++ [y])) (hnn : ∃ g cap, v' = .slice (some ⟨g, 0, none⟩) (done ++ [y]).length cap) (hA : FA Γ x a' w') :
  LS Γ σ x o ety sz e B v a' (w'.setCell ⟨x.blk, 0 + o, none⟩ v') (done ++ [y]) := by
 obtain ⟨C0, t0, g0, cap0, lrow0, k1, k2, k3, k4⟩ := h.mem
 rw [h1] at k1
 obtain ⟨rfl, rfl⟩ : C = C0 /\ t = t0 := by simpa using k1
 obtain ⟨l1, l2, l3, l4, l5⟩ := h.lo
 obtain ⟨g', cap', rfl⟩ := hnn
 have hlt : 0 + o < C.size := by
  rcases Nat.lt_or_ge (0 + o) C.size with h | h
  ·exact h
  ·rw [Array.getElem?_eq_none h] at h2; cases h2
 have h1' := hm.some h1 (fun e => by omega)
 have m2 : Mod (only x.blk) w' (w'.setCell ⟨x.blk, 0 + o, none⟩ (.slice (some ⟨g', 0, none⟩) (done ++ [y]).length cap')) := (Mod.refl w').put _ _
 have hsz1 := hm.size
 have hsz2 := m2.size
 refine ⟨hA.store m2 (fun C2 t2 hC2 => by
  rw [h1'] at hC2
  obtain ⟨rfl, rfl⟩ : C = C2 /\ t = t2 := by simpa using hC2
  refine ⟨_, heap_setCell_same h1' _, fun q hq => ?_⟩
  have := Fl.off_spec hot q hq
  rw [Array.getElem?_setIfInBounds_ne (by omega)]), ⟨_, t, g', cap', lrow', heap_setCell_same h1' _, by rw [Array.getElem?_setIfInBounds, if_pos rfl, if_pos hlt], ?_, hG.mod (rep_ok hr hsz) m2 (fun k e => by have e' : k = x.blk := e; subst e'; exact ⟨fun f => f.1.2.1 rfl, l2⟩)⟩, by omega, l2, l3, l4, l5⟩
 rw [sub_set]
 exact (k3.mod hm (fun k hk e => by omega) (fun _ h => h)).mod m2 (fun k hk e => hk.1.2.1 e) (fun _ h => h)
end
end Go.Proofs.Ythkpmmjcmldjhaa
set_option linter.unusedSimpArgs false
set_option linter.unusedVariables false
namespace Go.Proofs.Ythkpmmjcmldjhaa
open Go Go.RowKit
theorem RepS.cells {w : World} {F : Nat -> Prop} {ety : Ty} {v : Value} {t : Tr} (h : RepS w F ety v t) (hr : ety.ok = true) : v.cells.size = ety.size /\ v.cells.all (·.oneCell') = true /\ Rep w F ety (from' v.cells 0) t := by
 rcases h with ⟨h1, h2, h3⟩ | ⟨cs, rfl, h2, h3, h4⟩
 ·have hc : v.cells = #[v] := one_cells h2
  rw [hc]
  refine ⟨by simp [h1], by simp [h2], Rep.congr ety _ _ _ hr (fun j hj => ?_) h3⟩
  have : j = 0 := by omega
  subst this
  rfl
 ·exact ⟨h2, h3, h4⟩
end Go.Proofs.Ythkpmmjcmldjhaa
set_option linter.unusedSimpArgs false
set_option linter.unusedVariables false
namespace Go.Proofs.Ythkpmmjcmldjhaa
open Go Go.RowKit
/-- a loop that counts -/
theorem wp_for2 {P : Program} {Q : Exit -> Act -> World -> Prop} {a : Act} {w : World} {b0 b1 t : Nat} {ct body inc : Code}
  (I J K : Nat -> Act -> World -> Prop) (n : Nat) (h0 : I n a w)
  (ht : ∀ m a w, I m a w -> ct.wp P (fun e a' w' => e = .normal /\ ((∃ m', m = m' + 1 /\ Act.get a' t = .bool true /\ J m' a' w') \/ (Act.get a' t = .bool false /\ Q .normal a' w'))) a w)
  (hbd : ∀ m a w, J m a w -> body.wp P (fun e a' w' => e = .normal /\ K m a' w') a w)
  (hi : ∀ m a w, K m a w -> inc.wp P (fun e a' w' => e = .normal /\ I m a' w') a w) :
  (Code.block b0 (.loop (.seq ct (.seq (.cond (.tmp t) .skip (.exit b0)) (.seq (.block b1 body) inc))))).wp P Q a w := by
 refine wp_block (wp_loop_ghost I n h0 ?_)
 intro m a w hI
 refine wp_seq (wp_mono (ht m a w hI) ?_)
 rintro e a1 w1 ⟨rfl, h⟩
 rcases h with ⟨m', rfl, hb1, hJ⟩ | ⟨hb1, hQ⟩
 ·refine wp_seq (wp_cond_true (by rw [Ze]; exact hb1) (wp_skip ?_))
  refine wp_seq (wp_block (wp_mono (hbd m' a1 w1 hJ) ?_))
  rintro e a2 w2 ⟨rfl, h2⟩
  exact wp_mono (hi m' a2 w2 h2) (by rintro e a3 w3 ⟨rfl, h3⟩; exact ⟨m', Nat.lt_succ_self _, h3⟩)
 ·refine wp_seq (wp_cond_false (by rw [Ze]; exact hb1) (wp_exit ?_))
  simp [Exit.then, Exit.inBlock]
  exact hQ
end Go.Proofs.Ythkpmmjcmldjhaa
