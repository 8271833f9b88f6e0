/-
  The laws' copy of a tree.
  The walk through the laws' copy of a tree.
-/
import Derived.Test.YtcldbjehliladaaDoorProg
import Derived.Test.YtcldbjehliladaaDoorPTelR
set_option linter.unusedSimpArgs false
set_option linter.unusedVariables false
namespace Go.Proofs.YtcldbjehliladaaDoor
open Go Go.RowKit
theorem elems_own {w : World} {base : Nat} {e : TypeId} {sz : Nat} {v : Value} {n : Nat} {xs : List Value} {F : Nat -> Prop} (h : w.ownsRow base e sz v n xs) (hF : ∀ k, v.ownBlock = some k -> F k) :
  Elems w F v n sz (fun i j => xs.getD (i * sz + j) undef) := by
 rcases h.2 with ⟨h1, h2⟩ | ⟨g, cap, cur, rfl, hb, hg, hnc, hcm, hsz, htake⟩
 ·exact .inl ⟨h2, h1⟩
 ·refine .inr ⟨g, 0, cap, cur, e, (0, 0), hF g rfl, rfl, hnc, hcm, hg, fun i hi j hj => ?_⟩
  have h3 : i * sz + j < n * sz := by
   have := Nat.mul_le_mul_right sz (show i + 1 <= n by omega)
   rw [Nat.add_mul] at this
   omega
  have h4 : n * sz <= cap * sz := Nat.mul_le_mul_right _ hnc
  have : xs[i * sz + j]? = cur[i * sz + j]? := by rw [<- htake, List.getElem?_take, if_pos h3, Array.getElem?_toList]
  rw [Nat.zero_add]
  simp only [List.getD_eq_getElem?_getD, this]
  rw [Array.getElem?_eq_getElem (by omega)]
  rfl
/-- the blocks in which the parts of the copy may lie -/
abbrev FG (F : Nat -> Prop) (b : Nat) (lv uv : Value) (w : World) : Nat -> Prop := fun k => F k \/ (b + 3 <= k /\ lv.ownBlock ≠ some k /\ uv.ownBlock ≠ some k /\ k < w.heap.size)
structure GMem (TI TS TG b : Nat) (F : Nat -> Prop) (cs : Array Value) (w0 w : World) (lv uv : Value) (lrow urow : List Value) (ld : List Tr) (ud : Tags) : Prop where
 mod : Mod none' w0 w
 size : b + 3 <= w.heap.size
 h1 : w.heap[b]? = some (.cells cs TI (0, 0))
 h2 : ∃ z, w.heap[b + 1]? = some (.cells z TS (0, 0)) /\ z.size = 5
 h3 : w.heap[b + 2]? = some (.cells #[cs.getD 0 undef, cs.getD 1 undef, cs.getD 2 undef, lv, uv] TS (0, 0))
 lo : w.ownsRow (b + 3) TS 5 lv ld.length lrow
 uo : w.ownsRow (b + 3) TG 2 uv ud.length urow
 ne : ∀ k, lv.ownBlock = some k -> uv.ownBlock ≠ some k
 lt : ∀ i (h : i < ld.length), TreeR w (FG F b lv uv w) (fun j => lrow.getD (i * 5 + j) undef) ld[i]
 ut : ∀ i (h : i < ud.length), urow.getD (i * 2 + 0) undef = .int .u32 (ud[i]).1 /\ fits .u32 (ud[i]).1 /\ ∃ nil, Oct w (FG F b lv uv w) (urow.getD (i * 2 + 1) undef) (ud[i]).2 nil
/-- what is made anew does no harm -/
theorem GMem.grow {TI TS TG b : Nat} {F : Nat -> Prop} {cs : Array Value} {w0 w w' : World} {lv uv : Value} {lrow urow : List Value} {ld : List Tr} {ud : Tags} (h : GMem TI TS TG b F cs w0 w lv uv lrow urow ld ud) (hm : Mod none' w w') :
  GMem TI TS TG b F cs w0 w' lv uv lrow urow ld ud := by
 obtain ⟨z, hz, hzs⟩ := h.h2
 have hs := hm.size
 have hF : ∀ k, FG F b lv uv w k -> FG F b lv uv w' k := fun k hk => hk.imp id fun hk => ⟨hk.1, hk.2.1, hk.2.2.1, by omega⟩
 refine ⟨h.mod.trans hm, by have := h.size; omega, hm.some h.h1 (fun f => f), ⟨z, hm.some hz (fun f => f), hzs⟩, hm.some h.h3 (fun f => f), ownsRow_mod h.lo hm (fun _ _ f => f), ownsRow_mod h.uo hm (fun _ _ f => f), h.ne,
  fun i hi => (h.lt i hi).mod hm (fun _ _ f => f) hF, fun i hi => ?_⟩
 obtain ⟨g1, g2, nil, g3⟩ := h.ut i hi
 exact ⟨g1, g2, nil, g3.mod hm (fun _ _ f => f) hF⟩
/-- one more part: the row has grown, then it is stored -/
theorem GMem.push {TI TS TG b : Nat} {F : Nat -> Prop} {cs : Array Value} {w0 w w1 : World} {lv uv lv' : Value} {lrow urow news : List Value} {ld : List Tr} {ud : Tags} {t : Tr} (h : GMem TI TS TG b F cs w0 w lv uv lrow urow ld ud)
  (hF : ∀ k, F k -> k < b) (hw0 : w0.heap.size = b) (hm : Mod (fun k => lv.ownBlock = some k) w w1) (ho : w1.ownsRow (b + 3) TS 5 lv' (ld.length + 1) (lrow ++ news)) (hn : news.length = 5)
  (hnew : ∀ k, lv'.ownBlock = some k -> lv.ownBlock = some k \/ w.heap.size <= k)
  (ht : TreeR w (fun k => F k \/ (b + 3 <= k /\ lv.ownBlock ≠ some k /\ uv.ownBlock ≠ some k)) (fun j => news.getD j undef) t) :
  GMem TI TS TG b F cs w0 (w1.setCell ⟨b + 2, 3, none⟩ lv') lv' uv (lrow ++ news) urow (ld ++ [t]) ud := by
 obtain ⟨z, hz, hzs⟩ := h.h2
 have hlo := h.lo.lt
 have huo := h.uo.lt
 have hb3 := h.size
 have hm2 : Mod (only (b + 2)) w1 (w1.setCell ⟨b + 2, 3, none⟩ lv') := (Mod.refl w1).put _ _
 have hmm : Mod (fun k => lv.ownBlock = some k \/ k = b + 2) w (w1.setCell ⟨b + 2, 3, none⟩ lv') := hm.trans' hm2 (fun _ _ h => .inl h) (fun _ _ h => .inr h)
 have hnl : ∀ k, k < b + 3 -> lv.ownBlock ≠ some k := fun k hk e => by have := (hlo k e).1; omega
 have hsz1 := hm.size
 have hsz2 : (w1.setCell ⟨b + 2, 3, none⟩ lv').heap.size = w1.heap.size := by simp
 have huo' : ∀ k, uv.ownBlock = some k -> ¬ (lv.ownBlock = some k \/ k = b + 2) := fun k hk hc => by
  rcases hc with hc | hc
  ·exact h.ne k hc hk
  ·have := (huo k hk).1; omega
 have hfg : ∀ k, FG F b lv uv w k -> ¬ (lv.ownBlock = some k \/ k = b + 2) := fun k hk hc => by
  rcases hk with hk | hk
  ·have := hF k hk
   rcases hc with hc | hc
   ·have := (hlo k hc).1; omega
   ·omega
  ·rcases hc with hc | hc
   ·exact hk.2.1 hc
   ·omega
 have hfg' : ∀ k, FG F b lv uv w k -> FG F b lv' uv (w1.setCell ⟨b + 2, 3, none⟩ lv') k := fun k hk => by
  rcases hk with hk | hk
  ·exact .inl hk
  ·refine .inr ⟨hk.1, fun e => ?_, hk.2.2.1, by rw [hsz2]; omega⟩
   rcases hnew k e with h1 | h1
   ·exact hk.2.1 h1
   ·omega
 refine ⟨h.mod.trans' hmm (fun _ _ f => f) (fun i hi hc => ?_), by rw [hsz2]; omega, hmm.some h.h1 (by rintro (e | e); exact hnl _ (by omega) e; omega), ⟨z, hmm.some hz (by rintro (e | e); exact hnl _ (by omega) e; omega), hzs⟩, ?_,
  ownsRow_mod (by simpa using ho) hm2 (fun k hk e => ?_), ownsRow_mod h.uo hmm huo', fun k h1 h2 => ?_, fun i hi => ?_, fun i hi => ?_⟩
 ·rcases hc with hc | hc
  ·have := (hlo i hc).1; omega
  ·omega
 ·rw [heap_setCell_same (hm.some h.h3 (fun e => hnl _ (by omega) e))]
  rfl
 ·have : k = b + 2 := e
  rcases hnew k hk with h1 | h1
  ·have := (hlo k h1).1; omega
  ·omega
 ·rcases hnew k h1 with h3 | h3
  ·exact h.ne k h3 h2
  ·have := (huo k h2).2; omega
 ·have hll : lrow.length = ld.length * 5 := h.lo.1
  by_cases hil : i < ld.length
  ·rw [List.getElem_append_left hil]
   refine ((h.lt i hil).congr fun j hj => ?_).mod hmm hfg hfg'
   simp only [List.getD_eq_getElem?_getD]
   rw [List.getElem?_append_left (by omega)]
  ·have hi' : i = ld.length := by simp at hi; omega
   subst hi'
   rw [List.getElem_append_right (Nat.le_refl _)]
   simp only [Nat.sub_self, List.getElem_cons_zero]
   refine ((ht.lt).congr fun j hj => ?_).mod hmm (fun k hk => ?_) (fun k hk => ?_)
   ·simp only [List.getD_eq_getElem?_getD]
    rw [List.getElem?_append_right (by omega), show ld.length * 5 + j - lrow.length = j by omega]
   ·exact hfg k (hk.1.imp id fun h => ⟨h.1, h.2.1, h.2.2, hk.2⟩)
   ·exact hfg' k (hk.1.imp id fun h => ⟨h.1, h.2.1, h.2.2, hk.2⟩)
 ·obtain ⟨g1, g2, nil, g3⟩ := h.ut i hi
  exact ⟨g1, g2, nil, g3.mod hmm hfg hfg'⟩
/-- one more tag -/
theorem GMem.pushU {TI TS TG b : Nat} {F : Nat -> Prop} {cs : Array Value} {w0 w w1 : World} {lv uv uv' : Value} {lrow urow news : List Value} {ld : List Tr} {ud : Tags} {q : Int × List UInt8} (h : GMem TI TS TG b F cs w0 w lv uv lrow urow ld ud)
  (hF : ∀ k, F k -> k < b) (hw0 : w0.heap.size = b) (hm : Mod (fun k => uv.ownBlock = some k) w w1) (ho : w1.ownsRow (b + 3) TG 2 uv' (ud.length + 1) (urow ++ news)) (hn : news.length = 2)
  (hnew : ∀ k, uv'.ownBlock = some k -> uv.ownBlock = some k \/ w.heap.size <= k)
  (ht : news.getD 0 undef = .int .u32 q.1 /\ fits .u32 q.1 /\ ∃ nil, Oct w (FG F b lv uv w) (news.getD 1 undef) q.2 nil) :
  GMem TI TS TG b F cs w0 (w1.setCell ⟨b + 2, 4, none⟩ uv') lv uv' lrow (urow ++ news) ld (ud ++ [q]) := by
 obtain ⟨z, hz, hzs⟩ := h.h2
 have hlo := h.lo.lt
 have huo := h.uo.lt
 have hb3 := h.size
 have hm2 : Mod (only (b + 2)) w1 (w1.setCell ⟨b + 2, 4, none⟩ uv') := (Mod.refl w1).put _ _
 have hmm : Mod (fun k => uv.ownBlock = some k \/ k = b + 2) w (w1.setCell ⟨b + 2, 4, none⟩ uv') := hm.trans' hm2 (fun _ _ h => .inl h) (fun _ _ h => .inr h)
 have hnl : ∀ k, k < b + 3 -> uv.ownBlock ≠ some k := fun k hk e => by have := (huo k e).1; omega
 have hsz1 := hm.size
 have hsz2 : (w1.setCell ⟨b + 2, 4, none⟩ uv').heap.size = w1.heap.size := by simp
 have hlo' : ∀ k, lv.ownBlock = some k -> ¬ (uv.ownBlock = some k \/ k = b + 2) := fun k hk hc => by
  rcases hc with hc | hc
  ·exact h.ne k hk hc
  ·have := (hlo k hk).1; omega
 have hfg : ∀ k, FG F b lv uv w k -> ¬ (uv.ownBlock = some k \/ k = b + 2) := fun k hk hc => by
  rcases hk with hk | hk
  ·have := hF k hk
   rcases hc with hc | hc
   ·have := (huo k hc).1; omega
   ·omega
  ·rcases hc with hc | hc
   ·exact hk.2.2.1 hc
   ·omega
 have hfg' : ∀ k, FG F b lv uv w k -> FG F b lv uv' (w1.setCell ⟨b + 2, 4, none⟩ uv') k := fun k hk => by
  rcases hk with hk | hk
  ·exact .inl hk
  ·refine .inr ⟨hk.1, hk.2.1, fun e => ?_, by rw [hsz2]; omega⟩
   rcases hnew k e with h1 | h1
   ·exact hk.2.2.1 h1
   ·omega
 refine ⟨h.mod.trans' hmm (fun _ _ f => f) (fun i hi hc => ?_), by rw [hsz2]; omega, hmm.some h.h1 (by rintro (e | e); exact hnl _ (by omega) e; omega), ⟨z, hmm.some hz (by rintro (e | e); exact hnl _ (by omega) e; omega), hzs⟩, ?_,
  ownsRow_mod h.lo hmm hlo', ownsRow_mod (by simpa using ho) hm2 (fun k hk e => ?_), fun k h1 h2 => ?_, fun i hi => (h.lt i hi).mod hmm hfg hfg', fun i hi => ?_⟩
 ·rcases hc with hc | hc
  ·have := (huo i hc).1; omega
  ·omega
 ·rw [heap_setCell_same (hm.some h.h3 (fun e => hnl _ (by omega) e))]
  rfl
 ·have : k = b + 2 := e
  rcases hnew k hk with h1 | h1
  ·have := (huo k h1).1; omega
  ·omega
 ·rcases hnew k h2 with h3 | h3
  ·exact h.ne k h1 h3
  ·have := (hlo k h1).2; omega
 ·have hll : urow.length = ud.length * 2 := h.uo.1
  by_cases hil : i < ud.length
  ·rw [List.getElem_append_left hil]
   obtain ⟨g1, g2, nil, g3⟩ := h.ut i hil
   have e0 : ∀ j, j < 2 -> (urow ++ news).getD (i * 2 + j) undef = urow.getD (i * 2 + j) undef := fun j hj => by
    simp only [List.getD_eq_getElem?_getD]
    rw [List.getElem?_append_left (by omega)]
   refine ⟨(e0 0 (by omega)).trans g1, g2, nil, ?_⟩
   rw [e0 1 (by omega)]
   exact g3.mod hmm hfg hfg'
  ·have hi' : i = ud.length := by simp at hi; omega
   subst hi'
   rw [List.getElem_append_right (Nat.le_refl _)]
   simp only [Nat.sub_self, List.getElem_cons_zero]
   obtain ⟨g1, g2, nil, g3⟩ := ht
   have e0 : ∀ j, j < 2 -> (urow ++ news).getD (ud.length * 2 + j) undef = news.getD j undef := fun j hj => by
    simp only [List.getD_eq_getElem?_getD]
    rw [List.getElem?_append_right (by omega), show ud.length * 2 + j - urow.length = j by omega]
   refine ⟨(e0 0 (by omega)).trans g1, g2, nil, ?_⟩
   rw [e0 1 (by omega)]
   exact g3.mod hmm hfg hfg'
end Go.Proofs.YtcldbjehliladaaDoor
set_option linter.unusedSimpArgs false
set_option linter.unusedVariables false
namespace Go.Proofs.YtcldbjehliladaaDoor
open Go Go.RowKit
abbrev TI : Nat := 26
abbrev TS : Nat := 37
abbrev TG : Nat := 60
abbrev TGI : Nat := 61
abbrev fGot : Nat := 11
def ldN (l : List Tr) (v : Value) : Nat := match v with | .int _ n => l.length - n.toNat | _ => 0
def udN (l : Tags) (v : Value) : Nat := match v with | .int _ n => l.length - n.toNat | _ => 0
theorem range5 {w : World} {b o : Nat} {c : Nat -> Value} (h : ∀ j, j < 5 -> w.cell? ⟨b, o + j, none⟩ = some (c j)) : w.rangeAt b o [c 0, c 1, c 2, c 3, c 4] := by
 intro j v hv
 match j, hv with
 | 0, hv => simp at hv; subst hv; exact h 0 (by omega)
 | 1, hv => simp at hv; subst hv; exact h 1 (by omega)
 | 2, hv => simp at hv; subst hv; exact h 2 (by omega)
 | 3, hv => simp at hv; subst hv; exact h 3 (by omega)
 | 4, hv => simp at hv; subst hv; exact h 4 (by omega)
 | j + 5, hv => simp at hv
theorem from5 (c : Nat -> Value) : ∀ j, j < 5 -> from' #[c 0, c 1, c 2, c 3, c 4] 0 j = c j := by
 intro j hj
 rcases (by omega : j = 0 \/ j = 1 \/ j = 2 \/ j = 3 \/ j = 4) with rfl | rfl | rfl | rfl | rfl <;> rfl
theorem all5 {c : Nat -> Value} (h : ∀ j, j < 5 -> (c j).oneCell' = true) : (#[c 0, c 1, c 2, c 3, c 4] : Array Value).all (·.oneCell') = true := by
 simp [h 0 (by omega), h 1 (by omega), h 2 (by omega), h 3 (by omega), h 4 (by omega)]
theorem arr5 {cs : Array Value} (h : cs.size = 5) : cs = #[from' cs 0 0, from' cs 0 1, from' cs 0 2, from' cs 0 3, from' cs 0 4] := by
 apply Array.ext
 ·simp [h]
 ·intro i h1 h2
  have h3 : cs[i] = from' cs 0 i := by simp [from', h1]
  rw [h3]
  have : i < 5 := by omega
  rcases (by omega : i = 0 \/ i = 1 \/ i = 2 \/ i = 3 \/ i = 4) with rfl | rfl | rfl | rfl | rfl <;> rfl
set_option maxRecDepth 20000 in
theorem got_spec : ∀ (N : Nat) (t : Tr), SizeOf.sizeOf t < N -> ∀ (cs : Array Value) (w : World) (F0 : Nat -> Prop), cs.size = 5 -> TreeR w F0 (from' cs 0) t ->
    Calls Tryd.prog fGot #[.agg cs] w fun e w' => ∃ v, e = .returned v /\ Mod none' w w' /\ TreeV w' (fun k => F0 k \/ w.heap.size <= k) v t := by
  intro N
  induction N with
  | zero => intro t ht; omega
  | succ N ihN =>
  intro t ht cs w F0 hsz hT0
  have hT := hT0.lt
  obtain ⟨F, hF⟩ : ∃ F : Nat -> Prop, F = fun k => F0 k /\ k < w.heap.size := ⟨_, rfl⟩
  rw [<- hF] at hT
  have hFlt : ∀ k, F k -> k < w.heap.size := fun k hk => by rw [hF] at hk; exact hk.2
  have hF0 : ∀ k, F k -> F0 k := fun k hk => by rw [hF] at hk; exact hk.1
  clear hF hT0
  have hone := hT.one
  obtain ⟨c, hc⟩ : ∃ c, c = from' cs 0 := ⟨_, rfl⟩
  have hcs5 := arr5 hsz
  rw [<- hc] at hT hone hcs5
  have hcs : ∀ j, j < 5 -> cs[j]? = some (c j) := fun j hj => by rw [hc]; simp [from', show j < cs.size by omega]
  clear hc
  cases hT with
  | mk h0 hn h1 h2 hbnd h3 h3' h4 h4' =>
  rename_i n s nil null l u f g
  refine calls_of_wp Tryd.func11 rfl ?_
  obtain ⟨aa, haa⟩ : ∃ aa : Act, aa = { tmps := (#[.agg cs] : Array Value) ++ Array.replicate (49 - (#[.agg cs] : Array Value).size) undef, defers := [] } := ⟨_, rfl⟩
  show Code.wp _ _ _ { tmps := (#[.agg cs] : Array Value) ++ Array.replicate (49 - (#[.agg cs] : Array Value).size) undef, defers := [] } w
  rw [<- haa]
  have g0 : Act.get aa 0 = .agg cs := by rw [haa, Zj _ _ _ (by simp)]; rfl
  have gN : aa.tmps.size = 49 := by rw [haa]; simp
  have gd : aa.defers = [] := by rw [haa]
  clear haa
  obtain ⟨b, hb⟩ : ∃ b, b = w.heap.size := ⟨_, rfl⟩
  -- region 0
  obtain ⟨z, hz, hz5⟩ : ∃ z, zeroOf Tryd.prog TS = some z /\ z.cells.size = 5 := ⟨.agg #[.int .i64 0, .slice none 0 0, .bool false, .slice none 0 0, .slice none 0 0], by kernel_rfl, rfl⟩
  refine wp_seq (wp_region_lit (Zv rfl x_box (Zv rfl (x_alloc hz) (wpList_nil ?_))))
  simp only [Ze, g0, Value.cells]
  obtain ⟨w1, hw1⟩ : ∃ w1, w1 = (w.alloc (.cells cs TI)).alloc (.cells z.cells TS) := ⟨_, rfl⟩
  have w1b : w1.heap[b]? = some (.cells cs TI (0, 0)) := by rw [hw1, hb, heap_alloc_old (by simp)]; exact Zh _ _
  have w1z : w1.heap[b + 1]? = some (.cells z.cells TS (0, 0)) := by
    rw [hw1, hb]
    have := Zh (w.alloc (.cells cs TI)) (.cells z.cells TS)
    simpa using this
  have w1s : w1.heap.size = b + 2 := by rw [hw1, hb]; simp
  have w1m : Mod none' w w1 := by rw [hw1]; exact ((Mod.refl w).alloc _).alloc _
  show Code.wp _ _ _ ((aa.put (some 1) (.pointer (some ⟨w.heap.size, 0, none⟩))).put (some 2) (.pointer (some ⟨(w.alloc (.cells cs TI)).heap.size, 0, none⟩))) ((w.alloc (.cells cs TI)).alloc (.cells z.cells TS))
  rw [<- hw1, <- hb, show (w.alloc (.cells cs TI)).heap.size = b + 1 by rw [hb]; simp]
  clear hw1
  -- region 1
  refine wp_seq (wp_region_lit ?_)
  refine Zv rfl (Za (o := 0) (by kernel_rfl) (b := b) (o0 := 0) ?_) ?_
  · simp (disch := first | omega | simp only [Zs]; omega) only [Zo, Ze, Zn, Zq]
  refine Zv rfl (Zl (by kernel_rfl) (b := b) (o := 0) (v := c 0) ?_ ?_) ?_
  · simp (disch := first | omega | simp only [Zs]; omega) only [Zo, Ze, Zn, Zq]
  · rw [Zc w1b]; exact hcs 0 (by omega)
  refine Zv rfl (Za (o := 1) (by kernel_rfl) (b := b) (o0 := 0) ?_) ?_
  · simp (disch := first | omega | simp only [Zs]; omega) only [Zo, Ze, Zn, Zq]
  refine Zv rfl (Zl (by kernel_rfl) (b := b) (o := 1) (v := c 1) ?_ ?_) ?_
  · simp (disch := first | omega | simp only [Zs]; omega) only [Zo, Ze, Zn, Zq]
  · rw [Zc w1b]; exact hcs 1 (by omega)
  refine Zv rfl (Za (o := 2) (by kernel_rfl) (b := b) (o0 := 0) ?_) ?_
  · simp (disch := first | omega | simp only [Zs]; omega) only [Zo, Ze, Zn, Zq]
  refine Zv rfl (Zl (by kernel_rfl) (b := b) (o := 2) (v := c 2) ?_ ?_) ?_
  · simp (disch := first | omega | simp only [Zs]; omega) only [Zo, Ze, Zn, Zq]
  · rw [Zc w1b]; exact hcs 2 (by omega)
  refine Zv rfl (x_build (cells := #[c 0, c 1, c 2, .slice none 0 0, .slice none 0 0]) ?_) ?_
  · simp (disch := first | omega | simp only [Zs]; omega) only [List.map_toArray, List.map_cons, List.map_nil, Zo, Ze, Zn, Zq]
    rw [built_of (places := [(0, 1), (1, 1), (2, 1), (3, 1), (4, 1)]) (z := .agg #[.int .i64 0, .slice none 0 0, .bool false, .slice none 0 0, .slice none 0 0]) (by kernel_rfl)]
    have k0 : (c 0).cells = #[c 0] := one_cells (hone 0 (by omega))
    have k1 : (c 1).cells = #[c 1] := one_cells (hone 1 (by omega))
    have k2 : (c 2).cells = #[c 2] := one_cells (hone 2 (by omega))
    show Instr.fill _ #[.int .i64 0, .slice none 0 0, .bool false, .slice none 0 0, .slice none 0 0] [(0, c 0), (1, c 1), (2, c 2)] = _
    simp [Instr.fill, k0, k1, k2]
  refine Zv rfl (x_alloc hz) ?_
  obtain ⟨w2, hw2⟩ : ∃ w2, w2 = w1.alloc (.cells z.cells TS) := ⟨_, rfl⟩
  have w2n : w2.heap[b + 2]? = some (.cells z.cells TS (0, 0)) := by rw [hw2, <- w1s]; exact Zh _ _
  have w2m : Mod none' w1 w2 := by rw [hw2]; exact (Mod.refl w1).alloc _
  have w2s : w2.heap.size = b + 3 := by rw [hw2]; simp; omega
  show wpList _ _ _ _ (Act.put _ (some 3) (.pointer (some ⟨w1.heap.size, 0, none⟩))) (w1.alloc (.cells z.cells TS))
  rw [<- hw2, w1s]
  clear hw2
  refine wpl_skip rfl (x_storeN (cs := #[c 0, c 1, c 2, .slice none 0 0, .slice none 0 0]) (b := b + 2) (o := 0) (by kernel_rfl) ?_ ?_ ?_ ?_) (wpList_nil ?_)
  · simp (disch := first | omega | simp only [Zs]; omega) only [Zo, Ze, Zn, Zq]
  · simp (disch := first | omega | simp only [Zs]; omega) only [Zo, Ze, Zn, Zq]
  · rw [Array.all_eq_true_iff_forall_mem]
    intro q hq
    simp at hq
    rcases hq with rfl | rfl | rfl | rfl
    · exact hone 0 (by omega)
    · exact hone 1 (by omega)
    · exact hone 2 (by omega)
    · rfl
  · intro j hj
    simp at hj
    rw [Zc w2n, Zz w2n, Array.getElem?_eq_getElem (by omega)]
    exact ⟨rfl, rfl⟩
  obtain ⟨C3, k1, k2, k3, k4⟩ := heap_setCells (w := w2) [c 0, c 1, c 2, .slice none 0 0, .slice none 0 0] 0 _ w2n
  have hC3 : C3 = #[c 0, c 1, c 2, .slice none 0 0, .slice none 0 0] := by
    apply Array.ext
    · rw [k2, hz5]; rfl
    · intro i h1 h2
      have hi : i < 5 := by simpa using h2
      have := k3 i (by simpa using hi) (by omega)
      rw [Nat.zero_add, Array.getElem?_eq_getElem h1] at this
      simpa using this
  subst hC3
  obtain ⟨w3, hw3⟩ : ∃ w3, w3 = w2.setCells (b + 2) 0 [c 0, c 1, c 2, .slice none 0 0, .slice none 0 0] := ⟨_, rfl⟩
  have hm3 : Mod (only (b + 2)) w2 w3 := by rw [hw3]; exact mod_setCells _ _ _ _
  show Code.wp _ _ _ _ (w2.setCells (b + 2) 0 [c 0, c 1, c 2, .slice none 0 0, .slice none 0 0])
  rw [<- hw3] at k1 ⊢
  clear hw3 k3 k4
  have hcg : ∀ j, j < 5 -> cs.getD j undef = c j := fun j hj => by simp [hcs j hj]
  have hG : GMem TI TS TG b F cs w w3 (.slice none 0 0) (.slice none 0 0) [] [] (l.take 0) (u.take 0) := by
    refine ⟨(w1m.trans w2m).trans' hm3 (fun _ _ f => f) (fun i hi e => by have : i = b + 2 := e; omega), by have := hm3.size; omega, hm3.some (w2m.some w1b (fun f => f)) (fun e => by have : b = b + 2 := e; omega),
      ⟨z.cells, hm3.some (w2m.some w1z (fun f => f)) (fun e => by have : b + 1 = b + 2 := e; omega), hz5⟩, ?_, World.ownsRow_nil _ _ _ _, World.ownsRow_nil _ _ _ _, fun k hk => by simp [Value.ownBlock] at hk, fun i hi => by simp at hi, fun i hi => by simp at hi⟩
    rw [hcg 0 (by omega), hcg 1 (by omega), hcg 2 (by omega)]
    exact k1
  -- the slots
  refine wp_act (fun a : Act => Act.get a 1 = .pointer (some ⟨b, 0, none⟩) /\ Act.get a 2 = .pointer (some ⟨b + 1, 0, none⟩) /\ Act.get a 3 = .pointer (some ⟨b + 2, 0, none⟩) /\ a.tmps.size = 49 /\ a.defers = []) ⟨?_, ?_, ?_, ?_, ?_⟩ ?_
  · simp (disch := first | omega | simp only [Zs]; omega) only [Zo, Ze, Zn, Zq]
  · simp (disch := first | omega | simp only [Zs]; omega) only [Zo, Ze, Zn, Zq]
  · simp (disch := first | omega | simp only [Zs]; omega) only [Zo, Ze, Zn, Zq]
  · simp only [Zs]; exact gN
  · simp only [Zd]; exact gd
  rintro a3 ⟨q1, q2, q3, qN, qd⟩
  clear gN gd g0
  -- region 2
  refine wp_seq (wp_seq (wp_region_lit ?_))
  refine Zv rfl (Za (o := 3) (by kernel_rfl) (b := b) (o0 := 0) ?_) ?_
  · simp (disch := first | omega | simp only [Zs]; omega) only [Zo, Ze, Zn, Zq, q1]
  refine Zv rfl (Zl (by kernel_rfl) (b := b) (o := 3) (v := c 3) ?_ ?_) ?_
  · simp (disch := first | omega | simp only [Zs]; omega) only [Zo, Ze, Zn, Zq]
  · rw [Zc hG.h1]; exact hcs 3 (by omega)
  have hsl : ∃ ao cap, c 3 = .slice ao l.length cap := by
    rcases h3 with ⟨h, h'⟩ | ⟨k, off, cap, C, t, fr, h1, h2, _⟩
    · exact ⟨none, 0, by rw [h', h]⟩
    · exact ⟨_, _, h2⟩
  obtain ⟨ao, cap, hsl⟩ := hsl
  refine Zv rfl (x_len (by kernel_rfl) rfl (ao := ao) (cap := cap) (n := l.length) ?_) ?_
  · rw [Ze, <- hsl]; simp (disch := first | omega | simp only [Zs]; omega) only [Zo, Ze, Zn, Zq]
  refine Zv rfl Zm (wpList_nil ?_)
  refine wp_act (fun a : Act => Act.get a 1 = .pointer (some ⟨b, 0, none⟩) /\ Act.get a 2 = .pointer (some ⟨b + 1, 0, none⟩) /\ Act.get a 3 = .pointer (some ⟨b + 2, 0, none⟩) /\ Act.get a 16 = c 3 /\ Act.get a 17 = .int .i64 l.length /\ Act.get a 18 = .int .i64 (0 : Nat) /\ a.tmps.size = 49 /\ a.defers = []) ⟨?_, ?_, ?_, ?_, ?_, ?_, ?_, ?_⟩ ?_
  · simp (disch := first | omega | simp only [Zs]; omega) only [Zo, Ze, Zn, Zq, q1]
  · simp (disch := first | omega | simp only [Zs]; omega) only [Zo, Ze, Zn, Zq, q2]
  · simp (disch := first | omega | simp only [Zs]; omega) only [Zo, Ze, Zn, Zq, q3]
  · simp (disch := first | omega | simp only [Zs]; omega) only [Zo, Ze, Zn, Zq]
  · simp (disch := first | omega | simp only [Zs]; omega) only [Zo, Ze, Zn, Zq]
  · simp (disch := first | omega | simp only [Zs]; omega) only [Zo, Ze, Zn, Zq]
    rfl
  · simp only [Zs]; exact qN
  · simp only [Zd]; exact qd
  rintro a4 ⟨r1, r2, r3, r16, r17, r18, rN, rd⟩
  clear qN qd q1 q2 q3
  refine wp_block ?_
  refine wp_loop (fun a w' => a.tmps.size = 49 /\ a.defers = [] /\ Act.get a 1 = .pointer (some ⟨b, 0, none⟩) /\ Act.get a 2 = .pointer (some ⟨b + 1, 0, none⟩) /\ Act.get a 3 = .pointer (some ⟨b + 2, 0, none⟩) /\ Act.get a 16 = c 3 /\ Act.get a 17 = .int .i64 l.length /\
    ∃ i, i <= l.length /\ Act.get a 18 = .int .i64 (i : Nat) /\ ∃ lv lrow, GMem TI TS TG b F cs w w' lv (.slice none 0 0) lrow [] (l.take i) (u.take 0)) (fun a _ => ldN l (Act.get a 18)) ⟨rN, rd, r1, r2, r3, r16, r17, 0, Nat.zero_le _, r18, _, _, hG⟩ ?_
  clear r1 r2 r3 r16 r17 r18 rN rd hG
  clear k1 hm3
  rintro a w' ⟨aN, ad, r1, r2, r3, r16, r17, i, hi, r18, lv, lrow, hG⟩
  refine wp_seq (wp_region_lit (Zv rfl (x_lss (k := .i64) (m := (i : Nat)) (n := (l.length : Nat)) ?_ ?_) (wpList_nil ?_)))
  · exact r18
  · exact r17
  by_cases hil : i < l.length
  case neg =>
    have hieq : i = l.length := by omega
    subst hieq
    refine wp_seq (wp_cond_false ?_ (wp_exit ?_))
    · rw [Ze, Zq (by omega)]; simp
    simp only [Exit.then, Exit.inBlock, if_true]
    rw [List.take_length] at hG
    refine wp_act (fun a : Act => Act.get a 1 = .pointer (some ⟨b, 0, none⟩) /\ Act.get a 2 = .pointer (some ⟨b + 1, 0, none⟩) /\ Act.get a 3 = .pointer (some ⟨b + 2, 0, none⟩) /\ a.tmps.size = 49 /\ a.defers = []) ⟨?_, ?_, ?_, ?_, ?_⟩ ?_
    · simp (disch := first | omega | simp only [Zs]; omega) only [Zo, Ze, Zn, Zq, r1]
    · simp (disch := first | omega | simp only [Zs]; omega) only [Zo, Ze, Zn, Zq, r2]
    · simp (disch := first | omega | simp only [Zs]; omega) only [Zo, Ze, Zn, Zq, r3]
    · simp only [Zs]; exact aN
    · simp only [Zd]; exact ad
    rintro a6 ⟨q1, q2, q3, qN, qd⟩
    refine wp_seq (wp_seq (wp_region_lit ?_))
    refine Zv rfl (Za (o := 4) (by kernel_rfl) (b := b) (o0 := 0) ?_) ?_
    · simp (disch := first | omega | simp only [Zs]; omega) only [Zo, Ze, Zn, Zq, q1]
    refine Zv rfl (Zl (by kernel_rfl) (b := b) (o := 4) (v := c 4) ?_ ?_) ?_
    · simp (disch := first | omega | simp only [Zs]; omega) only [Zo, Ze, Zn, Zq]
    · rw [Zc hG.h1]; exact hcs 4 (by omega)
    have hsl4 : ∃ ao cap, c 4 = .slice ao u.length cap := by
      rcases h4 with ⟨h, h'⟩ | ⟨k, off, cap, C, t, fr, h1, h2, _⟩
      · exact ⟨none, 0, by rw [h', h]⟩
      · exact ⟨_, _, h2⟩
    obtain ⟨ao4, cap4, hsl4⟩ := hsl4
    refine Zv rfl (x_len (by kernel_rfl) rfl (ao := ao4) (cap := cap4) (n := u.length) ?_) ?_
    · rw [Ze, <- hsl4]; simp (disch := first | omega | simp only [Zs]; omega) only [Zo, Ze, Zn, Zq]
    refine Zv rfl Zm (wpList_nil ?_)
    refine wp_act (fun a : Act => Act.get a 1 = .pointer (some ⟨b, 0, none⟩) /\ Act.get a 2 = .pointer (some ⟨b + 1, 0, none⟩) /\ Act.get a 3 = .pointer (some ⟨b + 2, 0, none⟩) /\ Act.get a 31 = c 4 /\ Act.get a 32 = .int .i64 u.length /\ Act.get a 33 = .int .i64 (0 : Nat) /\ a.tmps.size = 49 /\ a.defers = []) ⟨?_, ?_, ?_, ?_, ?_, ?_, ?_, ?_⟩ ?_
    · simp (disch := first | omega | simp only [Zs]; omega) only [Zo, Ze, Zn, Zq, q1]
    · simp (disch := first | omega | simp only [Zs]; omega) only [Zo, Ze, Zn, Zq, q2]
    · simp (disch := first | omega | simp only [Zs]; omega) only [Zo, Ze, Zn, Zq, q3]
    · simp (disch := first | omega | simp only [Zs]; omega) only [Zo, Ze, Zn, Zq]
    · simp (disch := first | omega | simp only [Zs]; omega) only [Zo, Ze, Zn, Zq]
    · simp (disch := first | omega | simp only [Zs]; omega) only [Zo, Ze, Zn, Zq]
      rfl
    · simp only [Zs]; exact qN
    · simp only [Zd]; exact qd
    rintro a7 ⟨p1, p2, p3, p31, p32, p33, pN, pd⟩
    refine wp_block ?_
    refine wp_loop (fun a w' => a.tmps.size = 49 /\ a.defers = [] /\ Act.get a 1 = .pointer (some ⟨b, 0, none⟩) /\ Act.get a 2 = .pointer (some ⟨b + 1, 0, none⟩) /\ Act.get a 3 = .pointer (some ⟨b + 2, 0, none⟩) /\ Act.get a 31 = c 4 /\ Act.get a 32 = .int .i64 u.length /\
      ∃ i, i <= u.length /\ Act.get a 33 = .int .i64 (i : Nat) /\ ∃ uv urow, GMem TI TS TG b F cs w w' lv uv lrow urow l (u.take i)) (fun a _ => udN u (Act.get a 33)) ⟨pN, pd, p1, p2, p3, p31, p32, 0, Nat.zero_le _, p33, _, _, hG⟩ ?_
    clear p1 p2 p3 p31 p32 p33 pN pd hG q1 q2 q3 qN qd r1 r2 r3 r16 r17 r18 aN ad
    rintro a w' ⟨aN, ad, r1, r2, r3, r31, r32, i, hi, r33, uv, urow, hG⟩
    refine wp_seq (wp_region_lit (Zv rfl (x_lss (k := .i64) (m := (i : Nat)) (n := (u.length : Nat)) ?_ ?_) (wpList_nil ?_)))
    · exact r33
    · exact r32
    by_cases hil : i < u.length
    case neg =>
      have hieq : i = u.length := by omega
      subst hieq
      refine wp_seq (wp_cond_false ?_ (wp_exit ?_))
      · rw [Ze, Zq (by omega)]; simp
      simp only [Exit.then, Exit.inBlock, if_true]
      rw [List.take_length] at hG
      obtain ⟨z2, hz2, hz25⟩ := hG.h2
      obtain ⟨ce, hce⟩ : ∃ ce : Array Value, ce = #[cs.getD 0 undef, cs.getD 1 undef, cs.getD 2 undef, lv, uv] := ⟨_, rfl⟩
      have hce5 : ce.size = 5 := by rw [hce]; rfl
      have hh3 := hG.h3
      rw [<- hce] at hh3
      have hceone : ce.all (·.oneCell') = true := by
        rw [hce, Array.all_eq_true_iff_forall_mem]
        intro q hq
        simp at hq
        rcases hq with rfl | rfl | rfl | rfl | rfl
        · have := hone 0 (by omega); rw [<- hcg 0 (by omega)] at this; simpa using this
        · have := hone 1 (by omega); rw [<- hcg 1 (by omega)] at this; simpa using this
        · have := hone 2 (by omega); rw [<- hcg 2 (by omega)] at this; simpa using this
        · exact ownsRow_one hG.lo
        · exact ownsRow_one hG.uo
      refine wp_seq (wp_region_lit ?_)
      refine Zv rfl (x_loadN (cs := ce.toList) (b := b + 2) (o := 0) ?_ ?_ ?_) ?_
      · rw [Array.length_toList, hce5]; kernel_rfl
      · simp (disch := first | omega | simp only [Zs]; omega) only [Zo, Ze, Zn, Zq, r3]
      · intro j v hv
        rw [Zc hh3, Nat.zero_add]; simpa using hv
      refine wpl_skip rfl (x_storeN (cs := ce) (b := b + 1) (o := 0) ?_ ?_ ?_ hceone ?_) (wpList_nil ?_)
      · rw [hce5]; kernel_rfl
      · simp (disch := first | omega | simp only [Zs]; omega) only [Zo, Ze, Zn, Zq, r2]
      · simp (disch := first | omega | simp only [Zs]; omega) only [Zo, Ze, Zn, Zq]
      · intro j hj
        rw [Zc hz2, Zz hz2, Array.getElem?_eq_getElem (by omega)]
        exact ⟨rfl, rfl⟩
      obtain ⟨C3, k1, k2, k3, k4⟩ := heap_setCells (w := w') ce.toList 0 _ hz2
      have hC3 : C3 = ce := by
        apply Array.ext
        · omega
        · intro i h1 h2
          have := k3 i (by simpa using h2) (by omega)
          rw [Nat.zero_add, Array.getElem?_eq_getElem h1] at this
          simpa [h2] using this
      subst hC3
      obtain ⟨w4, hw4⟩ : ∃ w4, w4 = w'.setCells (b + 1) 0 C3.toList := ⟨_, rfl⟩
      have hm4 : Mod (only (b + 1)) w' w4 := by rw [hw4]; exact mod_setCells _ _ _ _
      rw [<- hw4] at k1 ⊢
      clear hw4 k3 k4
      refine wp_ret (bodyPost_ret (results_cellN rfl (b := b + 1) (o := 0) (cs := C3.toList) ?_ ?_ ?_) ?_ ?_)
      · show Act.get _ 2 = _
        simp (disch := first | omega | simp only [Zs]; omega) only [Zo, Ze, Zn, Zq, r2]
      · rw [Array.length_toList, hce5]; kernel_rfl
      · intro j v hv
        rw [Zc k1, Nat.zero_add]; simpa using hv
      · simp only [Zd]; exact ad
      · have hmm : Mod none' w w4 := hG.mod.trans' hm4 (fun _ _ f => f) (fun j hj e => by have : j = b + 1 := e; omega)
        refine ⟨_, rfl, hmm, C3, rfl, hce5, hceone, ?_⟩
        have hF1 : ∀ k, FG F b lv uv w' k -> ¬ only (b + 1) k := fun k hk e => by
          have : k = b + 1 := e
          rcases hk with hk | hk
          · have := hFlt k hk; omega
          · omega
        have hF2 : ∀ k, FG F b lv uv w' k -> F0 k \/ b <= k := fun k hk => by
          rcases hk with hk | hk
          · exact .inl (hF0 k hk)
          · exact .inr (by omega)
        have hlb : ∀ k, lv.ownBlock = some k -> ¬ only (b + 1) k := fun k hk e => by have : k = b + 1 := e; have := (hG.lo.lt k hk).1; omega
        have hub : ∀ k, uv.ownBlock = some k -> ¬ only (b + 1) k := fun k hk e => by have : k = b + 1 := e; have := (hG.uo.lt k hk).1; omega
        have ee : ∀ j, from' C3 0 j = #[cs.getD 0 undef, cs.getD 1 undef, cs.getD 2 undef, lv, uv].getD j undef := fun j => by rw [hce]; simp [from']
        have e0 : from' C3 0 0 = c 0 := by rw [ee]; exact hcg 0 (by omega)
        have e1 : from' C3 0 1 = c 1 := by rw [ee]; exact hcg 1 (by omega)
        have e2 : from' C3 0 2 = c 2 := by rw [ee]; exact hcg 2 (by omega)
        have e3 : from' C3 0 3 = lv := by rw [ee]; rfl
        have e4 : from' C3 0 4 = uv := by rw [ee]; rfl
        refine .mk (f := fun i j => lrow.getD (i * 5 + j) undef) (g := fun i j => urow.getD (i * 2 + j) undef) (e0.trans h0) hn (by rw [e1]; exact h1.mod hmm (fun _ _ f => f) (fun k hk => .inl (hF0 k hk))) (e2.trans h2) hbnd ?_ ?_ ?_ ?_
        · rw [e3]
          exact elems_own (ownsRow_mod hG.lo hm4 hlb) (fun k hk => .inr (by have := (hG.lo.lt k hk).1; omega))
        · intro i hi
          exact (hG.lt i hi).mod hm4 hF1 hF2
        · rw [e4]
          exact elems_own (ownsRow_mod hG.uo hm4 hub) (fun k hk => .inr (by have := (hG.uo.lt k hk).1; omega))
        · intro i hi
          obtain ⟨g1, g2, nil, g3⟩ := hG.ut i hi
          exact ⟨g1, g2, nil, g3.mod hm4 hF1 hF2⟩
    case pos =>
      refine wp_seq (wp_cond_true ?_ (wp_skip ?_))
      · rw [Ze, Zq (by omega)]; simp; omega
      refine wp_seq (wp_block (wp_seq (wp_region_lit ?_)))
      rcases h4 with ⟨h, _⟩ | ⟨k, off, cap', C, tC, fr, e1, e2, e3, e4, e5, e6⟩
      · omega
      have e5' := hG.mod.some e5 (fun f => f)
      refine Zv rfl (Zx (sz := 2) (i := i) (b := k) (o := off) (n := u.length) (cap := cap') (k := .i64) (by kernel_rfl) ?_ ?_ hil) ?_
      · simp (disch := first | omega | simp only [Zs]; omega) only [Zo, Ze, Zn, Zq, r31]
        exact e2
      · simp (disch := first | omega | simp only [Zs]; omega) only [Zo, Ze, Zn, Zq, r33]
      obtain ⟨f0, f1, nilT, f2⟩ := h4' i hil
      have honeT : (g i 1).oneCell' = true := oct_one f2
      refine Zv rfl (x_loadN (cs := [g i 0, g i 1]) (b := k) (o := off + i * 2) (by kernel_rfl) ?_ ?_) ?_
      · simp (disch := first | omega | simp only [Zs]; omega) only [Zo, Ze, Zn, Zq]
      · intro j v hv
        rw [Zc e5']
        match j, hv with
        | 0, hv => simp at hv; subst hv; exact e6 i hil 0 (by omega)
        | 1, hv => simp at hv; subst hv; exact e6 i hil 1 (by omega)
        | j + 2, hv => simp at hv
      obtain ⟨zi, hzi, hzi2⟩ : ∃ z, zeroOf Tryd.prog TGI = some z /\ z.cells.size = 2 := ⟨.agg #[.int .u32 0, .slice none 0 0], by kernel_rfl, rfl⟩
      refine Zv rfl (x_alloc hzi) ?_
      obtain ⟨w2, hw2⟩ : ∃ w2, w2 = w'.alloc (.cells zi.cells TGI) := ⟨_, rfl⟩
      have v2n : w2.heap[w'.heap.size]? = some (.cells zi.cells TGI (0, 0)) := by rw [hw2]; exact Zh _ _
      have v2m : Mod none' w' w2 := by rw [hw2]; exact (Mod.refl w').alloc _
      show wpList _ _ _ _ (Act.put _ (some 7) (.pointer (some ⟨w'.heap.size, 0, none⟩))) (w'.alloc (.cells zi.cells TGI))
      rw [<- hw2]
      clear hw2
      refine wpl_skip rfl (x_storeN (cs := #[g i 0, g i 1]) (b := w'.heap.size) (o := 0) (by kernel_rfl) ?_ ?_ (by simp [f0, honeT, Value.oneCell']; exact honeT) ?_) (wpList_nil ?_)
      · simp (disch := first | omega | simp only [Zs]; omega) only [Zo, Ze, Zn, Zq]
      · simp (disch := first | omega | simp only [Zs]; omega) only [Zo, Ze, Zn, Zq]
      · intro j hj
        simp at hj
        rw [Zc v2n, Zz v2n, Array.getElem?_eq_getElem (by omega)]
        exact ⟨rfl, rfl⟩
      obtain ⟨C5, k1, k2, k3, k4⟩ := heap_setCells (w := w2) [g i 0, g i 1] 0 _ v2n
      have hC5 : C5 = #[g i 0, g i 1] := by
        apply Array.ext
        · rw [k2, hzi2]; rfl
        · intro i h1 h2
          have hi : i < 2 := by simpa using h2
          have := k3 i (by simpa using hi) (by omega)
          rw [Nat.zero_add, Array.getElem?_eq_getElem h1] at this
          simpa using this
      subst hC5
      obtain ⟨wr, hwr⟩ : ∃ w3, w3 = w2.setCells w'.heap.size 0 [g i 0, g i 1] := ⟨_, rfl⟩
      have hmr : Mod (only w'.heap.size) w2 wr := by rw [hwr]; exact mod_setCells _ _ _ _
      show Code.wp _ _ _ _ (w2.setCells w'.heap.size 0 [g i 0, g i 1])
      rw [<- hwr] at k1 ⊢
      clear hwr k3 k4 v2n
      have hm' : Mod none' w' wr := v2m.trans' hmr (fun _ _ f => f) (fun j hj e => by have : j = w'.heap.size := e; omega)
      replace hG := hG.grow hm'
      obtain ⟨xb, hxb⟩ : ∃ xb, xb = w'.heap.size := ⟨_, rfl⟩
      rw [<- hxb] at k1 ⊢
      have hxl : xb < wr.heap.size := lt_of_block k1
      clear hm' hmr v2m
      refine wp_act (fun a : Act => Act.get a 1 = .pointer (some ⟨b, 0, none⟩) /\ Act.get a 2 = .pointer (some ⟨b + 1, 0, none⟩) /\ Act.get a 3 = .pointer (some ⟨b + 2, 0, none⟩) /\ Act.get a 31 = c 4 /\ Act.get a 32 = .int .i64 u.length /\ Act.get a 33 = .int .i64 (i : Nat) /\
        Act.get a 7 = .pointer (some ⟨xb, 0, none⟩) /\ a.tmps.size = 49 /\ a.defers = []) ⟨?_, ?_, ?_, ?_, ?_, ?_, ?_, ?_, ?_⟩ ?_
      · simp (disch := first | omega | simp only [Zs]; omega) only [Zo, Ze, Zn, Zq, r1]
      · simp (disch := first | omega | simp only [Zs]; omega) only [Zo, Ze, Zn, Zq, r2]
      · simp (disch := first | omega | simp only [Zs]; omega) only [Zo, Ze, Zn, Zq, r3]
      · simp (disch := first | omega | simp only [Zs]; omega) only [Zo, Ze, Zn, Zq, r31]
      · simp (disch := first | omega | simp only [Zs]; omega) only [Zo, Ze, Zn, Zq, r32]
      · simp (disch := first | omega | simp only [Zs]; omega) only [Zo, Ze, Zn, Zq, r33]
      · simp (disch := first | omega | simp only [Zs]; omega) only [Zo, Ze, Zn, Zq]
      · simp only [Zs]; exact aN
      · simp only [Zd]; exact ad
      rintro a5 ⟨s1, s2, s3, s31, s32, s33, s7, sN, sd⟩
      have r33' := r33
      clear aN ad r1 r2 r3 r31 r32 r33
      refine wp_region_lit ?_
      refine Zv rfl (Za (o := 4) (by kernel_rfl) (b := b + 2) (o0 := 0) ?_) ?_
      · simp (disch := first | omega | simp only [Zs]; omega) only [Zo, Ze, Zn, Zq, s3]
      refine Zv rfl (Zl (by kernel_rfl) (b := b + 2) (o := 4) (v := uv) ?_ ?_) ?_
      · simp (disch := first | omega | simp only [Zs]; omega) only [Zo, Ze, Zn, Zq]
      · rw [Zc hG.h3]; rfl
      refine Zv rfl (Za (o := 0) (by kernel_rfl) (b := xb) (o0 := 0) ?_) ?_
      · simp (disch := first | omega | simp only [Zs]; omega) only [Zo, Ze, Zn, Zq, s7]
      refine Zv rfl (Zl (by kernel_rfl) (b := xb) (o := 0) (v := g i 0) ?_ ?_) ?_
      · simp (disch := first | omega | simp only [Zs]; omega) only [Zo, Ze, Zn, Zq]
      · rw [Zc k1]; rfl
      refine Zv rfl (Za (o := 1) (by kernel_rfl) (b := xb) (o0 := 0) ?_) ?_
      · simp (disch := first | omega | simp only [Zs]; omega) only [Zo, Ze, Zn, Zq, s7]
      refine Zv rfl (Zl (by kernel_rfl) (b := xb) (o := 1) (v := g i 1) ?_ ?_) ?_
      · simp (disch := first | omega | simp only [Zs]; omega) only [Zo, Ze, Zn, Zq]
      · rw [Zc k1]; rfl
      refine Zv rfl (x_build (cells := #[g i 0, g i 1]) ?_) ?_
      · simp (disch := first | omega | simp only [Zs]; omega) only [List.map_toArray, List.map_cons, List.map_nil, Zo, Ze, Zn, Zq]
        rw [built_of (places := [(0, 1), (1, 1)]) (z := .agg #[.int .u32 0, .slice none 0 0]) (by kernel_rfl)]
        have k0 : (g i 0).cells = #[g i 0] := one_cells (by rw [f0]; rfl)
        have k1 : (g i 1).cells = #[g i 1] := one_cells honeT
        show Instr.fill _ #[.int .u32 0, .slice none 0 0] [(0, g i 0), (1, g i 1)] = _
        simp [Instr.fill, k0, k1]
      refine Zv rfl (x_buildSlice1 (e := TG) (sz := 2) (v := .agg #[g i 0, g i 1]) (by kernel_rfl) ?_ rfl) ?_
      · simp (disch := first | omega | simp only [Zs]; omega) only [Zo, Ze, Zn, Zq]
      obtain ⟨v1, hv1⟩ : ∃ v1, v1 = wr.alloc (.cells #[g i 0, g i 1] TG) := ⟨_, rfl⟩
      have v1n : v1.heap[wr.heap.size]? = some (.cells #[g i 0, g i 1] TG (0, 0)) := by rw [hv1]; exact Zh _ _
      have v1m : Mod none' wr v1 := by rw [hv1]; exact (Mod.refl wr).alloc _
      show wpList _ _ _ _ (Act.put _ (some 44) (.slice (some ⟨wr.heap.size, 0, none⟩) 1 1)) (wr.alloc (.cells #[g i 0, g i 1] TG))
      rw [<- hv1]
      clear hv1
      have hG1 := hG.grow v1m
      have hlen : (u.take i).length = i := by rw [List.length_take]; omega
      refine wpl_append (e := TG) (sz := 2) (base := b + 3) (v := uv) (n := i) (xs := urow) (ad := ⟨wr.heap.size, 0, none⟩) (m := 1) (c := 1) (news := [g i 0, g i 1]) (by kernel_rfl) ?_ ?_ (hlen ▸ hG1.uo) rfl (fun j u hu => by
          rw [Addr.add_mid, Zc v1n, Nat.zero_add]; simpa using hu) (by intro q hq; simp at hq; rcases hq with rfl | rfl; (rw [f0]; rfl); exact honeT) (by omega) hG1.size ?_
      · simp (disch := first | omega | simp only [Zs]; omega) only [Zo, Ze, Zn, Zq]
      · simp (disch := first | omega | simp only [Zs]; omega) only [Zo, Ze, Zn, Zq]
      intro v' v2 ho hmo hnn hnew
      have hbx : uv.ownBlock ≠ some (b + 2) := fun e => by have := (hG1.uo.lt _ e).1; omega
      have hh3 := hmo.some hG1.h3 hbx
      refine Zv rfl (Za (o := 4) (by kernel_rfl) (b := b + 2) (o0 := 0) ?_) ?_
      · simp (disch := first | omega | simp only [Zs]; omega) only [Zo, Ze, Zn, Zq, s3]
      refine wpl_skip rfl (x_store1 (by kernel_rfl) (b := b + 2) (o := 4) (v := v') (u := uv) ?_ ?_ (ownsRow_one ho) ?_ ?_) (wpList_nil ?_)
      · simp (disch := first | omega | simp only [Zs]; omega) only [Zo, Ze, Zn, Zq]
      · simp (disch := first | omega | simp only [Zs]; omega) only [Zo, Ze, Zn, Zq]
      · rw [Zc hh3]; rfl
      · exact Zz hh3
      have hpush := hG1.pushU (by rw [hb]; exact hFlt) hb.symm hmo (by rw [hlen]; exact ho) rfl hnew (q := u[i]) (show [g i 0, g i 1].getD 0 undef = _ /\ _ /\ ∃ nil, Oct v1 _ ([g i 0, g i 1].getD 1 undef) _ nil from ⟨f0, f1, nilT, f2.mod hG1.mod (fun _ _ f => f) (fun k hk => Or.inl hk)⟩)
      rw [show u.take i ++ [u[i]] = u.take (i + 1) by simp] at hpush
      obtain ⟨v3, hv3⟩ : ∃ v3, v3 = v2.setCell ⟨b + 2, 4, none⟩ v' := ⟨_, rfl⟩
      rw [<- hv3] at hpush ⊢
      clear hv3
      simp only [Exit.then, Exit.inBlock]
      refine wp_region_lit (Zv rfl (x_add (k := .i64) (m := (i : Nat)) (n := 1) ?_ rfl) (Zv rfl Zm (wpList_nil ?_)))
      · simp (disch := first | omega | simp only [Zs]; omega) only [Zo, Ze, Zn, Zq]
        exact s33
      have hwrap : IntKind.i64.wrap ((i : Int) + 1) = ((i + 1 : Nat) : Int) := by rw [IntKind.wrap_i64]; omega
      refine ⟨⟨?_, ?_, ?_, ?_, ?_, ?_, ?_, i + 1, by omega, ?_, v', urow ++ [g i 0, g i 1], hpush⟩, ?_⟩
      · simp only [Zs]; exact sN
      · simp only [Zd]; exact sd
      · simp (disch := first | omega | simp only [Zs]; omega) only [Zo, Ze, Zn, Zq, s1]
      · simp (disch := first | omega | simp only [Zs]; omega) only [Zo, Ze, Zn, Zq, s2]
      · simp (disch := first | omega | simp only [Zs]; omega) only [Zo, Ze, Zn, Zq, s3]
      · simp (disch := first | omega | simp only [Zs]; omega) only [Zo, Ze, Zn, Zq, s31]
      · simp (disch := first | omega | simp only [Zs]; omega) only [Zo, Ze, Zn, Zq, s32]
      · simp (disch := first | omega | simp only [Zs]; omega) only [Zo, Ze, Zn, Zq]
        rw [hwrap]
      · simp (disch := first | omega | simp only [Zs]; omega) only [Zo, Ze, Zn, Zq]
        rw [hwrap, r33']
        simp only [udN, Int.toNat_natCast]
        omega
  case pos =>
    refine wp_seq (wp_cond_true ?_ (wp_skip ?_))
    · rw [Ze, Zq (by omega)]; simp; omega
    refine wp_seq (wp_block (wp_seq (wp_region_lit ?_)))
    rcases h3 with ⟨h, _⟩ | ⟨k, off, cap', C, tC, fr, e1, e2, e3, e4, e5, e6⟩
    · omega
    have e5' := hG.mod.some e5 (fun f => f)
    have hkb : k < b := by rw [hb]; exact hFlt k e1
    refine Zv rfl (Zx (sz := 5) (i := i) (b := k) (o := off) (n := l.length) (cap := cap') (k := .i64) (by kernel_rfl) ?_ ?_ hil) ?_
    · simp (disch := first | omega | simp only [Zs]; omega) only [Zo, Ze, Zn, Zq, r16]
      exact e2
    · simp (disch := first | omega | simp only [Zs]; omega) only [Zo, Ze, Zn, Zq, r18]
    refine Zv rfl (x_loadN (cs := [f i 0, f i 1, f i 2, f i 3, f i 4]) (b := k) (o := off + i * 5) (by kernel_rfl) ?_ ?_) ?_
    · simp (disch := first | omega | simp only [Zs]; omega) only [Zo, Ze, Zn, Zq]
    · refine range5 fun j hj => ?_
      rw [Zc e5']
      exact e6 i hil j hj
    obtain ⟨zi, hzi, hzi5⟩ : ∃ z, zeroOf Tryd.prog TI = some z /\ z.cells.size = 5 := ⟨.agg #[.int .i64 0, .slice none 0 0, .bool false, .slice none 0 0, .slice none 0 0], by kernel_rfl, rfl⟩
    refine Zv rfl (x_alloc hzi) ?_
    obtain ⟨w2, hw2⟩ : ∃ w2, w2 = w'.alloc (.cells zi.cells TI) := ⟨_, rfl⟩
    have v2n : w2.heap[w'.heap.size]? = some (.cells zi.cells TI (0, 0)) := by rw [hw2]; exact Zh _ _
    have v2m : Mod none' w' w2 := by rw [hw2]; exact (Mod.refl w').alloc _
    show wpList _ _ _ _ (Act.put _ (some 5) (.pointer (some ⟨w'.heap.size, 0, none⟩))) (w'.alloc (.cells zi.cells TI))
    rw [<- hw2]
    have v2s : w2.heap.size = w'.heap.size + 1 := by rw [hw2]; simp
    clear hw2
    have hTi := h3' i hil
    have r18' := r18
    have honei := hTi.one
    refine wpl_skip rfl (x_storeN (cs := #[f i 0, f i 1, f i 2, f i 3, f i 4]) (b := w'.heap.size) (o := 0) (by kernel_rfl) ?_ ?_ (all5 honei) ?_) (wpList_nil ?_)
    · simp (disch := first | omega | simp only [Zs]; omega) only [Zo, Ze, Zn, Zq]
    · simp (disch := first | omega | simp only [Zs]; omega) only [Zo, Ze, Zn, Zq]
    · intro j hj
      simp at hj
      rw [Zc v2n, Zz v2n, Array.getElem?_eq_getElem (by omega)]
      exact ⟨rfl, rfl⟩
    obtain ⟨C5, k1, k2, k3, k4⟩ := heap_setCells (w := w2) [f i 0, f i 1, f i 2, f i 3, f i 4] 0 _ v2n
    have hC5 : C5 = #[f i 0, f i 1, f i 2, f i 3, f i 4] := by
      apply Array.ext
      · rw [k2, hzi5]; rfl
      · intro i h1 h2
        have hi : i < 5 := by simpa using h2
        have := k3 i (by simpa using hi) (by omega)
        rw [Nat.zero_add, Array.getElem?_eq_getElem h1] at this
        simpa using this
    subst hC5
    obtain ⟨wr, hwr⟩ : ∃ w3, w3 = w2.setCells w'.heap.size 0 [f i 0, f i 1, f i 2, f i 3, f i 4] := ⟨_, rfl⟩
    have hmr : Mod (only w'.heap.size) w2 wr := by rw [hwr]; exact mod_setCells _ _ _ _
    show Code.wp _ _ _ _ (w2.setCells w'.heap.size 0 [f i 0, f i 1, f i 2, f i 3, f i 4])
    rw [<- hwr] at k1 ⊢
    clear hwr k3 k4 v2n
    have hm' : Mod none' w' wr := v2m.trans' hmr (fun _ _ f => f) (fun j hj e => by have : j = w'.heap.size := e; omega)
    replace hG := hG.grow hm'
    obtain ⟨xb, hxb⟩ : ∃ xb, xb = w'.heap.size := ⟨_, rfl⟩
    rw [<- hxb] at k1 ⊢
    have hxl : xb < wr.heap.size := lt_of_block k1
    have hxg : b + 3 <= wr.heap.size := hG.size
    clear hm' hmr v2m v2s
    have hTr : TreeR wr F (f i) l[i] := hTi.mod hG.mod (fun _ _ f => f) (fun _ h => h)
    refine wp_act (fun a : Act => Act.get a 1 = .pointer (some ⟨b, 0, none⟩) /\ Act.get a 2 = .pointer (some ⟨b + 1, 0, none⟩) /\ Act.get a 3 = .pointer (some ⟨b + 2, 0, none⟩) /\ Act.get a 16 = c 3 /\ Act.get a 17 = .int .i64 l.length /\ Act.get a 18 = .int .i64 (i : Nat) /\
        Act.get a 5 = .pointer (some ⟨xb, 0, none⟩) /\ a.tmps.size = 49 /\ a.defers = []) ⟨?_, ?_, ?_, ?_, ?_, ?_, ?_, ?_, ?_⟩ ?_
    · simp (disch := first | omega | simp only [Zs]; omega) only [Zo, Ze, Zn, Zq, r1]
    · simp (disch := first | omega | simp only [Zs]; omega) only [Zo, Ze, Zn, Zq, r2]
    · simp (disch := first | omega | simp only [Zs]; omega) only [Zo, Ze, Zn, Zq, r3]
    · simp (disch := first | omega | simp only [Zs]; omega) only [Zo, Ze, Zn, Zq, r16]
    · simp (disch := first | omega | simp only [Zs]; omega) only [Zo, Ze, Zn, Zq, r17]
    · simp (disch := first | omega | simp only [Zs]; omega) only [Zo, Ze, Zn, Zq, r18]
    · simp (disch := first | omega | simp only [Zs]; omega) only [Zo, Ze, Zn, Zq]
    · simp only [Zs]; exact aN
    · simp only [Zd]; exact ad
    rintro a5 ⟨s1, s2, s3, s16, s17, s18, s5, sN, sd⟩
    clear aN ad r1 r2 r3 r16 r17 r18
    -- region 5
    refine region_rlt (l := [_, _, _, _, _]) (tl := [_, _, _]) rfl (Mod none') (Mod.refl wr).drew (fun _ _ _ h h' => h.trans h') [22, 23, 24, 25, 26]
      [fun v _ => v = .pointer (some ⟨b + 2, 3, none⟩), fun v _ => v = lv, fun v _ => v = .agg #[f i 0, f i 1, f i 2, f i 3, f i 4],
       fun v w'' => TreeV w'' (fun k => F k \/ wr.heap.size <= k) v l[i],
       fun v w'' => ∃ nb C, v = .slice (some ⟨nb, 0, none⟩) 1 1 /\ w''.heap[nb]? = some (.cells C TS (0, 0)) /\ C.size = 5 /\ C.all (·.oneCell') = true /\ TreeR w'' (fun k => F k \/ wr.heap.size <= k) (from' C 0) l[i]]
      ?_ rfl (by decide) (by simp [sN]) (by simp) (by kernel_rfl) ⟨?_, ?_, ?_, ?_, ?_, trivial⟩ ?_
    · intro g hg v v1 v2 hv hr
      simp only [List.mem_cons, List.not_mem_nil, or_false] at hg
      rcases hg with rfl | rfl | rfl | rfl | rfl
      · exact hv
      · exact hv
      · exact hv
      · exact TreeV.mod hv hr (fun _ _ f => f) (fun _ h => h)
      · obtain ⟨nb, C, e1, e2, e3, e4, e5⟩ := hv
        exact ⟨nb, C, e1, hr.some e2 (fun f => f), e3, e4, e5.mod hr (fun _ _ f => f) (fun _ h => h)⟩
    · intro a1 v1 hr hs hd
      have t3 := (hs.get 3 (by decide)).trans s3
      exact Zw (Za (o := 3) (by kernel_rfl) (b := b + 2) (o0 := 0) t3) ⟨_, rfl, .refl _, rfl⟩
    · intro a1 v1 hr hs hd
      have d0 : Act.get a1 22 = .pointer (some ⟨b + 2, 3, none⟩) := hd ⟨0, .data⟩ (by simp) rfl
      exact Zw (Zl (by kernel_rfl) (b := b + 2) (o := 3) (v := lv) d0 (by rw [Zc (hr.some hG.h3 (fun f => f))]; rfl)) ⟨_, rfl, .refl _, rfl⟩
    · intro a1 v1 hr hs hd
      have t5 := (hs.get 5 (by decide)).trans s5
      exact Zw (x_loadN (cs := [f i 0, f i 1, f i 2, f i 3, f i 4]) (b := xb) (o := 0) (by kernel_rfl) t5 (range5 fun j hj => by
        rw [Zc (hr.some k1 (fun f => f)), Nat.zero_add]
        have := from5 (f i) j hj
        simp only [from', Nat.zero_add, Array.getD_eq_getD_getElem?] at this
        rw [Array.getElem?_eq_getElem (by simpa using hj)] at this ⊢
        simpa using this)) ⟨_, rfl, .refl _, rfl⟩
    · intro a1 v1 hr hs hd
      have d2 : Act.get a1 24 = .agg #[f i 0, f i 1, f i 2, f i 3, f i 4] := hd ⟨2, .data⟩ (by simp) rfl
      have hih := ihN l[i] (by have := List.sizeOf_lt_of_mem (List.getElem_mem hil); simp only [Tr.mk.sizeOf_spec] at ht; omega) #[f i 0, f i 1, f i 2, f i 3, f i 4] v1 F rfl (((hTr.mod hr (fun _ _ f => f) (fun _ h => h)).congr (from5 (f i))))
      refine owp_call (Zy (by kernel_rfl) rfl) (R := fun e w' => ∃ v, e = .returned v /\ Mod none' v1 w' /\ TreeV w' (fun k => F k \/ v1.heap.size <= k) v l[i]) ?_ ?_
      · have e0 : (#[Operand.tmp 24] : Array Operand).map a1.eval = #[.agg #[f i 0, f i 1, f i 2, f i 3, f i 4]] := by simp [Ze, d2]
        rw [e0]
        exact hih
      · rintro e v2 ⟨v, rfl, hm, hv⟩
        exact ⟨v, rfl, v, rfl, hm, hv.mod (Mod.refl (S := none') v2) (fun _ _ f => f) (fun k hk => hk.imp id fun h => by have := hr.size; omega)⟩
    · intro a1 v1 hr hs hd
      have d3 : TreeV v1 (fun k => F k \/ wr.heap.size <= k) (Act.get a1 25) l[i] := hd ⟨3, .data⟩ (by simp) rfl
      obtain ⟨C, e1, e2, e3, e4⟩ := d3
      refine Zw (x_buildSlice1 (e := TS) (sz := 5) (v := .agg C) (by kernel_rfl) e1 e2) ⟨_, rfl, (Mod.refl v1).alloc _, v1.heap.size, C, rfl, Zh _ _, e2, e3, e4.mod ((Mod.refl v1).alloc (S := none') _) (fun _ _ f => f) (fun _ h => h)⟩
    · intro a1 v1 hr hs hd
      have d1 : Act.get a1 23 = lv := hd 1 (by decide)
      have d4 : ∃ nb C, Act.get a1 26 = .slice (some ⟨nb, 0, none⟩) 1 1 /\ v1.heap[nb]? = some (.cells C TS (0, 0)) /\ C.size = 5 /\ C.all (·.oneCell') = true /\ TreeR v1 (fun k => F k \/ wr.heap.size <= k) (from' C 0) l[i] := hd 4 (by decide)
      obtain ⟨nb, C, d41, d42, d43, d44, d45⟩ := d4
      have hG1 := hG.grow hr
      have hlen : (l.take i).length = i := by rw [List.length_take]; omega
      refine wpl_append (e := TS) (sz := 5) (base := b + 3) (v := lv) (n := i) (xs := lrow) (ad := ⟨nb, 0, none⟩) (m := 1) (c := 1) (news := C.toList) (by kernel_rfl) d1 d41 (hlen ▸ hG1.lo) (by simp [d43]) (fun j u hu => by
          rw [Addr.add_mid, Zc d42, Nat.zero_add]; simpa using hu) (by rw [Array.all_eq_true_iff_forall_mem] at d44; intro u hu; exact d44 u (by simpa using hu)) (by omega) hG1.size ?_
      intro v' v2 ho hmo hnn hnew
      have hbx : lv.ownBlock ≠ some (b + 2) := fun e => by have := (hG1.lo.lt _ e).1; omega
      have hh3 := hmo.some hG1.h3 hbx
      refine Zv rfl (Za (o := 3) (by kernel_rfl) (b := b + 2) (o0 := 0) ?_) ?_
      · simp (disch := first | omega | simp only [Zs]; omega) only [Zo, Ze, Zn, Zq]
        exact (hs.get 3 (by decide)).trans s3
      have hbz : ∀ t, t ∉ [22, 23, 24, 25, 26] -> Act.get a1 t = Act.get a5 t := fun t ht => hs.get t ht
      have sN1 : a1.tmps.size = 49 := hs.size.trans sN
      refine wpl_skip rfl (x_store1 (by kernel_rfl) (b := b + 2) (o := 3) (v := v') (u := lv) ?_ ?_ (ownsRow_one ho) ?_ ?_) (wpList_nil ?_)
      · simp (disch := first | omega | simp only [Zs]; omega) only [Zo, Ze, Zn, Zq]
      · simp (disch := first | omega | simp only [Zs]; omega) only [Zo, Ze, Zn, Zq]
      · rw [Zc hh3]; rfl
      · exact Zz hh3
      have hpush := hG1.push (by rw [hb]; exact hFlt) hb.symm hmo (by rw [hlen]; exact ho) (by simp [d43]) hnew (t := l[i]) (by
        have hlt := hG.lo.lt
        refine (d45.congr (fun j hj => ?_)).mod (Mod.refl (S := none') v1) (fun _ _ f => f) (fun k hk => ?_)
        · simp [from']
        · rcases hk with hk | hk
          · exact .inl hk
          · refine .inr ⟨by omega, fun e => ?_, fun e => by cases e⟩
            have := (hlt k e).2
            omega)
      rw [show l.take i ++ [l[i]] = l.take (i + 1) by simp] at hpush
      obtain ⟨v3, hv3⟩ : ∃ v3, v3 = v2.setCell ⟨b + 2, 3, none⟩ v' := ⟨_, rfl⟩
      rw [<- hv3] at hpush ⊢
      clear hv3
      simp only [Exit.then, Exit.inBlock]
      refine wp_region_lit (Zv rfl (x_add (k := .i64) (m := (i : Nat)) (n := 1) ?_ rfl) (Zv rfl Zm (wpList_nil ?_)))
      · simp (disch := first | omega | simp only [Zs]; omega) only [Zo, Ze, Zn, Zq, hbz 18 (by decide)]
        exact s18
      have hwrap : IntKind.i64.wrap ((i : Int) + 1) = ((i + 1 : Nat) : Int) := by rw [IntKind.wrap_i64]; omega
      refine ⟨⟨?_, ?_, ?_, ?_, ?_, ?_, ?_, i + 1, by omega, ?_, v', lrow ++ C.toList, hpush⟩, ?_⟩
      · simp only [Zs]; exact sN1
      · simp only [Zd]; exact hs.defers.trans sd
      · simp (disch := first | omega | simp only [Zs]; omega) only [Zo, Ze, Zn, Zq, hbz 1 (by decide), s1]
      · simp (disch := first | omega | simp only [Zs]; omega) only [Zo, Ze, Zn, Zq, hbz 2 (by decide), s2]
      · simp (disch := first | omega | simp only [Zs]; omega) only [Zo, Ze, Zn, Zq, hbz 3 (by decide), s3]
      · simp (disch := first | omega | simp only [Zs]; omega) only [Zo, Ze, Zn, Zq, hbz 16 (by decide), s16]
      · simp (disch := first | omega | simp only [Zs]; omega) only [Zo, Ze, Zn, Zq, hbz 17 (by decide), s17]
      · simp (disch := first | omega | simp only [Zs]; omega) only [Zo, Ze, Zn, Zq]
        rw [hwrap]
      · simp (disch := first | omega | simp only [Zs]; omega) only [Zo, Ze, Zn, Zq]
        rw [hwrap, r18']
        simp only [ldN, Int.toNat_natCast]
        omega
end Go.Proofs.YtcldbjehliladaaDoor
