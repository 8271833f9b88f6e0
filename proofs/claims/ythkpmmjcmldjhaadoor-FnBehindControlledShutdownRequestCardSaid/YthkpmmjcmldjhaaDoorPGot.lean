/-
  The laws' copy of a tree.
  The walk through the laws' copy of a tree.
-/
import Derived.Test.YthkpmmjcmldjhaaDoorProg
import Derived.Test.YthkpmmjcmldjhaaDoorPTelR
set_option linter.unusedSimpArgs false
set_option linter.unusedVariables false
namespace Go.Proofs.YthkpmmjcmldjhaaDoor
open Go Go.RowKit
/-- the blocks in which the parts of the copy may lie -/
abbrev FG (F : Nat -> Prop) (b : Nat) (lv uv : Value) (w : World) : Nat -> Prop := fun k => F k \/ (b + 3 <= k /\ lv.ownBlock ≠ some k /\ uv.ownBlock ≠ some k /\ k < w.heap.size)
structure GMem (TI TS TG b : Nat) (F : Nat -> Prop) (cs : Array Value) (w0 w : World) (lv uv : Value) (lrow urow : List Value) (ld : List Tr) (ud : Tags) : Prop where
 mod : Mod none' w0 w
 size : b + 3 <= w.heap.size
 h1 : w.heap[b]? = some (.cells cs TI (0, 0))
 h2 : ∃ z, w.heap[b + 1]? = some (.cells z TS (0, 0)) /\ z.size = 5
 h3 : w.heap[b + 2]? = some (.cells #[cs.getD 0 undef, cs.getD 1 undef, cs.getD 2 undef, lv, uv] TS (0, 0))
 lo : w.ownsRow (b + 3) TS 5 lv ld.length lrow
 uo : w.ownsRow (b + 3) TG 2 uv ud.length urow
 ne : ∀ k, lv.ownBlock = some k -> uv.ownBlock ≠ some k
 lt : ∀ i (h : i < ld.length), TreeR w (FG F b lv uv w) (fun j => lrow.getD (i * 5 + j) undef) ld[i]
 ut : ∀ i (h : i < ud.length), urow.getD (i * 2 + 0) undef = .int .u32 (ud[i]).1 /\ fits .u32 (ud[i]).1 /\ ∃ nil, Oct w (FG F b lv uv w) (urow.getD (i * 2 + 1) undef) (ud[i]).2 nil
/-- what is made anew does no harm -/
theorem GMem.grow {TI TS TG b : Nat} {F : Nat -> Prop} {cs : Array Value} {w0 w w' : World} {lv uv : Value} {lrow urow : List Value} {ld : List Tr} {ud : Tags} (h : GMem TI TS TG b F cs w0 w lv uv lrow urow ld ud) (hm : Mod none' w w') :
  GMem TI TS TG b F cs w0 w' lv uv lrow urow ld ud := by
 obtain ⟨z, hz, hzs⟩ := h.h2
 have hs := hm.size
 have hF : ∀ k, FG F b lv uv w k -> FG F b lv uv w' k := fun k hk => hk.imp id fun hk => ⟨hk.1, hk.2.1, hk.2.2.1, by omega⟩
 refine ⟨h.mod.trans hm, by have := h.size; omega, hm.some h.h1 (fun f => f), ⟨z, hm.some hz (fun f => f), hzs⟩, hm.some h.h3 (fun f => f), ownsRow_mod h.lo hm (fun _ _ f => f), ownsRow_mod h.uo hm (fun _ _ f => f), h.ne,
  fun i hi => (h.lt i hi).mod hm (fun _ _ f => f) hF, fun i hi => ?_⟩
 obtain ⟨g1, g2, nil, g3⟩ := h.ut i hi
 exact ⟨g1, g2, nil, g3.mod hm (fun _ _ f => f) hF⟩
/-- one more part: the row has grown, then it is stored -/
theorem GMem.push {TI TS TG b : Nat} {F : Nat -> Prop} {cs : Array Value} {w0 w w1 : World} {lv uv lv' : Value} {lrow urow news : List Value} {ld : List Tr} {ud : Tags} {t : Tr} (h : GMem TI TS TG b F cs w0 w lv uv lrow urow ld ud)
  (hF : ∀ k, F k -> k < b) (hw0 : w0.heap.size = b) (hm : Mod (fun k => lv.ownBlock = some k) w w1) (ho : w1.ownsRow (b + 3) TS 5 lv' (ld.length + 1) (lrow ++ news)) (hn : news.length = 5)
  (hnew : ∀ k, lv'.ownBlock = some k -> lv.ownBlock = some k \/ w.heap.size <= k)
  (ht : TreeR w (fun k => F k \/ (b + 3 <= k /\ lv.ownBlock ≠ some k /\ uv.ownBlock ≠ some k)) (fun j => news.getD j undef) t) :
  GMem TI TS TG b F cs w0 (w1.setCell ⟨b + 2, 3, none⟩ lv') lv' uv (lrow ++ news) urow (ld ++ [t]) ud := by
 obtain ⟨z, hz, hzs⟩ := h.h2
 have hlo := h.lo.lt
 have huo := h.uo.lt
 have hb3 := h.size
 have hm2 : Mod (only (b + 2)) w1 (w1.setCell ⟨b + 2, 3, none⟩ lv') := (Mod.refl w1).put _ _
 have hmm : Mod (fun k => lv.ownBlock = some k \/ k = b + 2) w (w1.setCell ⟨b + 2, 3, none⟩ lv') := hm.trans' hm2 (fun _ _ h => .inl h) (fun _ _ h => .inr h)
 have hnl : ∀ k, k < b + 3 -> lv.ownBlock ≠ some k := fun k hk e => by have := (hlo k e).1; omega
 have hsz1 := hm.size
 have hsz2 : (w1.setCell ⟨b + 2, 3, none⟩ lv').heap.size = w1.heap.size := by simp
 have huo' : ∀ k, uv.ownBlock = some k -> ¬ (lv.ownBlock = some k \/ k = b + 2) := fun k hk hc => by
  rcases hc with hc | hc
  ·exact h.ne k hc hk
  ·have := (huo k hk).1; omega
 have hfg : ∀ k, FG F b lv uv w k -> ¬ (lv.ownBlock = some k \/ k = b + 2) := fun k hk hc => by
  rcases hk with hk | hk
  ·have := hF k hk
   rcases hc with hc | hc
   ·have := (hlo k hc).1; omega
   ·omega
  ·rcases hc with hc | hc
   ·exact hk.2.1 hc
   ·omega
 have hfg' : ∀ k, FG F b lv uv w k -> FG F b lv' uv (w1.setCell ⟨b + 2, 3, none⟩ lv') k := fun k hk => by
  rcases hk with hk | hk
  ·exact .inl hk
  ·refine .inr ⟨hk.1, fun e => ?_, hk.2.2.1, by rw [hsz2]; omega⟩
   rcases hnew k e with h1 | h1
   ·exact hk.2.1 h1
   ·omega
 refine ⟨h.mod.trans' hmm (fun _ _ f => f) (fun i hi hc => ?_), by rw [hsz2]; omega, hmm.some h.h1 (by rintro (e | e); exact hnl _ (by omega) e; omega), ⟨z, hmm.some hz (by rintro (e | e); exact hnl _ (by omega) e; omega), hzs⟩, ?_,
  ownsRow_mod (by simpa using ho) hm2 (fun k hk e => ?_), ownsRow_mod h.uo hmm huo', fun k h1 h2 => ?_, fun i hi => ?_, fun i hi => ?_⟩
 ·rcases hc with hc | hc
  ·have := (hlo i hc).1; omega
  ·omega
 ·rw [heap_setCell_same (hm.some h.h3 (fun e => hnl _ (by omega) e))]
  rfl
 ·have : k = b + 2 := e
  rcases hnew k hk with h1 | h1
  ·have := (hlo k h1).1; omega
  ·omega
 ·rcases hnew k h1 with h3 | h3
  ·exact h.ne k h3 h2
  ·have := (huo k h2).2; omega
 ·have hll : lrow.length = ld.length * 5 := h.lo.1
  by_cases hil : i < ld.length
  ·rw [List.getElem_append_left hil]
   refine ((h.lt i hil).congr fun j hj => ?_).mod hmm hfg hfg'
   simp only [List.getD_eq_getElem?_getD]
   rw [List.getElem?_append_left (by omega)]
  ·have hi' : i = ld.length := by simp at hi; omega
   subst hi'
   rw [List.getElem_append_right (Nat.le_refl _)]
   simp only [Nat.sub_self, List.getElem_cons_zero]
   refine ((ht.lt).congr fun j hj => ?_).mod hmm (fun k hk => ?_) (fun k hk => ?_)
   ·simp only [List.getD_eq_getElem?_getD]
    rw [List.getElem?_append_right (by omega), show ld.length * 5 + j - lrow.length = j by omega]
   ·exact hfg k (hk.1.imp id fun h => ⟨h.1, h.2.1, h.2.2, hk.2⟩)
   ·exact hfg' k (hk.1.imp id fun h => ⟨h.1, h.2.1, h.2.2, hk.2⟩)
 ·obtain ⟨g1, g2, nil, g3⟩ := h.ut i hi
  exact ⟨g1, g2, nil, g3.mod hmm hfg hfg'⟩
end Go.Proofs.YthkpmmjcmldjhaaDoor
set_option linter.unusedSimpArgs false
set_option linter.unusedVariables false
namespace Go.Proofs.YthkpmmjcmldjhaaDoor
open Go Go.RowKit
abbrev TI : Nat := 42
abbrev TS : Nat := 26
abbrev TG : Nat := 69
theorem arr5 {cs : Array Value} (h : cs.size = 5) : cs = #[from' cs 0 0, from' cs 0 1, from' cs 0 2, from' cs 0 3, from' cs 0 4] := by
 apply Array.ext
 ·simp [h]
 ·intro i h1 h2
  have h3 : cs[i] = from' cs 0 i := by simp [from', h1]
  rw [h3]
  have : i < 5 := by omega
  rcases (by omega : i = 0 \/ i = 1 \/ i = 2 \/ i = 3 \/ i = 4) with rfl | rfl | rfl | rfl | rfl <;> rfl
end Go.Proofs.YthkpmmjcmldjhaaDoor
