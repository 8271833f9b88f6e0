/-
  The laws' copy of a tree.
  The walk through the laws' copy of a tree.
  Octets that are the same; trees that are the same.
  Trees that are the same.
-/
import Derived.Test.YtmehfgiadapekaaGreatProg
import Derived.Test.YtmehfgiadapekaaGreatPTelR
set_option linter.unusedSimpArgs false
set_option linter.unusedVariables false
namespace Go.Proofs.YtmehfgiadapekaaGreat
open Go Go.RowKit
theorem elems_own {w : World} {base : Nat} {e : TypeId} {sz : Nat} {v : Value} {n : Nat} {xs : List Value} {F : Nat -> Prop} (h : w.ownsRow base e sz v n xs) (hF : ∀ k, v.ownBlock = some k -> F k) :
  Elems w F v n sz (fun i j => xs.getD (i * sz + j) undef) := by
 rcases h.2 with ⟨h1, h2⟩ | ⟨g, cap, cur, rfl, hb, hg, hnc, hcm, hsz, htake⟩
 ·exact .inl ⟨h2, h1⟩
 ·refine .inr ⟨g, 0, cap, cur, e, (0, 0), hF g rfl, rfl, hnc, hcm, hg, fun i hi j hj => ?_⟩
  have h3 : i * sz + j < n * sz := by
   have := Nat.mul_le_mul_right sz (show i + 1 <= n by omega)
   rw [Nat.add_mul] at this
   omega
  have h4 : n * sz <= cap * sz := Nat.mul_le_mul_right _ hnc
  have : xs[i * sz + j]? = cur[i * sz + j]? := by rw [<- htake, List.getElem?_take, if_pos h3, Array.getElem?_toList]
  rw [Nat.zero_add]
  simp only [List.getD_eq_getElem?_getD, this]
  rw [Array.getElem?_eq_getElem (by omega)]
  rfl
/-- the blocks in which the parts of the copy may lie -/
abbrev FG (F : Nat -> Prop) (b : Nat) (lv uv : Value) (w : World) : Nat -> Prop := fun k => F k \/ (b + 3 <= k /\ lv.ownBlock ≠ some k /\ uv.ownBlock ≠ some k /\ k < w.heap.size)
structure GMem (TI TS TG b : Nat) (F : Nat -> Prop) (cs : Array Value) (w0 w : World) (lv uv : Value) (lrow urow : List Value) (ld : List Tr) (ud : Tags) : Prop where
 mod : Mod none' w0 w
 size : b + 3 <= w.heap.size
 h1 : w.heap[b]? = some (.cells cs TI (0, 0))
 h2 : ∃ z, w.heap[b + 1]? = some (.cells z TS (0, 0)) /\ z.size = 5
 h3 : w.heap[b + 2]? = some (.cells #[cs.getD 0 undef, cs.getD 1 undef, cs.getD 2 undef, lv, uv] TS (0, 0))
 lo : w.ownsRow (b + 3) TS 5 lv ld.length lrow
 uo : w.ownsRow (b + 3) TG 2 uv ud.length urow
 ne : ∀ k, lv.ownBlock = some k -> uv.ownBlock ≠ some k
 lt : ∀ i (h : i < ld.length), TreeR w (FG F b lv uv w) (fun j => lrow.getD (i * 5 + j) undef) ld[i]
 ut : ∀ i (h : i < ud.length), urow.getD (i * 2 + 0) undef = .int .u32 (ud[i]).1 /\ fits .u32 (ud[i]).1 /\ ∃ nil, Oct w (FG F b lv uv w) (urow.getD (i * 2 + 1) undef) (ud[i]).2 nil
/-- what is made anew does no harm -/
theorem GMem.grow {TI TS TG b : Nat} {F : Nat -> Prop} {cs : Array Value} {w0 w w' : World} {lv uv : Value} {lrow urow : List Value} {ld : List Tr} {ud : Tags} (h : GMem TI TS TG b F cs w0 w lv uv lrow urow ld ud) (hm : Mod none' w w') :
  GMem TI TS TG b F cs w0 w' lv uv lrow urow ld ud := by
 obtain ⟨z, hz, hzs⟩ := h.h2
 have hs := hm.size
 have hF : ∀ k, FG F b lv uv w k -> FG F b lv uv w' k := fun k hk => hk.imp id fun hk => ⟨hk.1, hk.2.1, hk.2.2.1, by omega⟩
 refine ⟨h.mod.trans hm, by have := h.size; omega, hm.some h.h1 (fun f => f), ⟨z, hm.some hz (fun f => f), hzs⟩, hm.some h.h3 (fun f => f), ownsRow_mod h.lo hm (fun _ _ f => f), ownsRow_mod h.uo hm (fun _ _ f => f), h.ne,
  fun i hi => (h.lt i hi).mod hm (fun _ _ f => f) hF, fun i hi => ?_⟩
 obtain ⟨g1, g2, nil, g3⟩ := h.ut i hi
 exact ⟨g1, g2, nil, g3.mod hm (fun _ _ f => f) hF⟩
/-- one more part: the row has grown, then it is stored -/
theorem GMem.push {TI TS TG b : Nat} {F : Nat -> Prop} {cs : Array Value} {w0 w w1 : World} {lv uv lv' : Value} {lrow urow news : List Value} {ld : List Tr} {ud : Tags} {t : Tr} (h : GMem TI TS TG b F cs w0 w lv uv lrow urow ld ud)
  (hF : ∀ k, F k -> k < b) (hw0 : w0.heap.size = b) (hm : Mod (fun k => lv.ownBlock = some k) w w1) (ho : w1.ownsRow (b + 3) TS 5 lv' (ld.length + 1) (lrow ++ news)) (hn : news.length = 5)
  (hnew : ∀ k, lv'.ownBlock = some k -> lv.ownBlock = some k \/ w.heap.size <= k)
  (ht : TreeR w (fun k => F k \/ (b + 3 <= k /\ lv.ownBlock ≠ some k /\ uv.ownBlock ≠ some k)) (fun j => news.getD j undef) t) :
  GMem TI TS TG b F cs w0 (w1.setCell ⟨b + 2, 3, none⟩ lv') lv' uv (lrow ++ news) urow (ld ++ [t]) ud := by
 obtain ⟨z, hz, hzs⟩ := h.h2
 have hlo := h.lo.lt
 have huo := h.uo.lt
 have hb3 := h.size
 have hm2 : Mod (only (b + 2)) w1 (w1.setCell ⟨b + 2, 3, none⟩ lv') := (Mod.refl w1).put _ _
 have hmm : Mod (fun k => lv.ownBlock = some k \/ k = b + 2) w (w1.setCell ⟨b + 2, 3, none⟩ lv') := hm.trans' hm2 (fun _ _ h => .inl h) (fun _ _ h => .inr h)
 have hnl : ∀ k, k < b + 3 -> lv.ownBlock ≠ some k := fun k hk e => by have := (hlo k e).1; omega
 have hsz1 := hm.size
 have hsz2 : (w1.setCell ⟨b + 2, 3, none⟩ lv').heap.size = w1.heap.size := by simp
 have huo' : ∀ k, uv.ownBlock = some k -> ¬ (lv.ownBlock = some k \/ k = b + 2) := fun k hk hc => by
  rcases hc with hc | hc
  ·exact h.ne k hc hk
  ·have := (huo k hk).1; omega
 have hfg : ∀ k, FG F b lv uv w k -> ¬ (lv.ownBlock = some k \/ k = b + 2) := fun k hk hc => by
  rcases hk with hk | hk
  ·have := hF k hk
   rcases hc with hc | hc
   ·have := (hlo k hc).1; omega
   ·omega
  ·rcases hc with hc | hc
   ·exact hk.2.1 hc
   ·omega
 have hfg' : ∀ k, FG F b lv uv w k -> FG F b lv' uv (w1.setCell ⟨b + 2, 3, none⟩ lv') k := fun k hk => by
  rcases hk with hk | hk
  ·exact .inl hk
  ·refine .inr ⟨hk.1, fun e => ?_, hk.2.2.1, by rw [hsz2]; omega⟩
   rcases hnew k e with h1 | h1
   ·exact hk.2.1 h1
   ·omega
 refine ⟨h.mod.trans' hmm (fun _ _ f => f) (fun i hi hc => ?_), by rw [hsz2]; omega, hmm.some h.h1 (by rintro (e | e); exact hnl _ (by omega) e; omega), ⟨z, hmm.some hz (by rintro (e | e); exact hnl _ (by omega) e; omega), hzs⟩, ?_,
  ownsRow_mod (by simpa using ho) hm2 (fun k hk e => ?_), ownsRow_mod h.uo hmm huo', fun k h1 h2 => ?_, fun i hi => ?_, fun i hi => ?_⟩
 ·rcases hc with hc | hc
  ·have := (hlo i hc).1; omega
  ·omega
 ·rw [heap_setCell_same (hm.some h.h3 (fun e => hnl _ (by omega) e))]
  rfl
 ·have : k = b + 2 := e
  rcases hnew k hk with h1 | h1
  ·have := (hlo k h1).1; omega
  ·omega
 ·rcases hnew k h1 with h3 | h3
  ·exact h.ne k h3 h2
  ·have := (huo k h2).2; omega
 ·have hll : lrow.length = ld.length * 5 := h.lo.1
  by_cases hil : i < ld.length
  ·rw [List.getElem_append_left hil]
   refine ((h.lt i hil).congr fun j hj => ?_).mod hmm hfg hfg'
   simp only [List.getD_eq_getElem?_getD]
   rw [List.getElem?_append_left (by omega)]
  ·have hi' : i = ld.length := by simp at hi; omega
   subst hi'
   rw [List.getElem_append_right (Nat.le_refl _)]
   simp only [Nat.sub_self, List.getElem_cons_zero]
   refine ((ht.lt).congr fun j hj => ?_).mod hmm (fun k hk => ?_) (fun k hk => ?_)
   ·simp only [List.getD_eq_getElem?_getD]
    rw [List.getElem?_append_right (by omega), show ld.length * 5 + j - lrow.length = j by omega]
   ·exact hfg k (hk.1.imp id fun h => ⟨h.1, h.2.1, h.2.2, hk.2⟩)
   ·exact hfg' k (hk.1.imp id fun h => ⟨h.1, h.2.1, h.2.2, hk.2⟩)
 ·obtain ⟨g1, g2, nil, g3⟩ := h.ut i hi
  exact ⟨g1, g2, nil, g3.mod hmm hfg hfg'⟩
/-- one more tag -/
theorem GMem.pushU {TI TS TG b : Nat} {F : Nat -> Prop} {cs : Array Value} {w0 w w1 : World} {lv uv uv' : Value} {lrow urow news : List Value} {ld : List Tr} {ud : Tags} {q : Int × List UInt8} (h : GMem TI TS TG b F cs w0 w lv uv lrow urow ld ud)
  (hF : ∀ k, F k -> k < b) (hw0 : w0.heap.size = b) (hm : Mod (fun k => uv.ownBlock = some k) w w1) (ho : w1.ownsRow (b + 3) TG 2 uv' (ud.length + 1) (urow ++ news)) (hn : news.length = 2)
  (hnew : ∀ k, uv'.ownBlock = some k -> uv.ownBlock = some k \/ w.heap.size <= k)
  (ht : news.getD 0 undef = .int .u32 q.1 /\ fits .u32 q.1 /\ ∃ nil, Oct w (FG F b lv uv w) (news.getD 1 undef) q.2 nil) :
  GMem TI TS TG b F cs w0 (w1.setCell ⟨b + 2, 4, none⟩ uv') lv uv' lrow (urow ++ news) ld (ud ++ [q]) := by
 obtain ⟨z, hz, hzs⟩ := h.h2
 have hlo := h.lo.lt
 have huo := h.uo.lt
 have hb3 := h.size
 have hm2 : Mod (only (b + 2)) w1 (w1.setCell ⟨b + 2, 4, none⟩ uv') := (Mod.refl w1).put _ _
 have hmm : Mod (fun k => uv.ownBlock = some k \/ k = b + 2) w (w1.setCell ⟨b + 2, 4, none⟩ uv') := hm.trans' hm2 (fun _ _ h => .inl h) (fun _ _ h => .inr h)
 have hnl : ∀ k, k < b + 3 -> uv.ownBlock ≠ some k := fun k hk e => by have := (huo k e).1; omega
 have hsz1 := hm.size
 have hsz2 : (w1.setCell ⟨b + 2, 4, none⟩ uv').heap.size = w1.heap.size := by simp
 have hlo' : ∀ k, lv.ownBlock = some k -> ¬ (uv.ownBlock = some k \/ k = b + 2) := fun k hk hc => by
  rcases hc with hc | hc
  ·exact h.ne k hk hc
  ·have := (hlo k hk).1; omega
 have hfg : ∀ k, FG F b lv uv w k -> ¬ (uv.ownBlock = some k \/ k = b + 2) := fun k hk hc => by
  rcases hk with hk | hk
  ·have := hF k hk
   rcases hc with hc | hc
   ·have := (huo k hc).1; omega
   ·omega
  ·rcases hc with hc | hc
   ·exact hk.2.2.1 hc
   ·omega
 have hfg' : ∀ k, FG F b lv uv w k -> FG F b lv uv' (w1.setCell ⟨b + 2, 4, none⟩ uv') k := fun k hk => by
  rcases hk with hk | hk
  ·exact .inl hk
  ·refine .inr ⟨hk.1, hk.2.1, fun e => ?_, by rw [hsz2]; omega⟩
   rcases hnew k e with h1 | h1
   ·exact hk.2.2.1 h1
   ·omega
 refine ⟨h.mod.trans' hmm (fun _ _ f => f) (fun i hi hc => ?_), by rw [hsz2]; omega, hmm.some h.h1 (by rintro (e | e); exact hnl _ (by omega) e; omega), ⟨z, hmm.some hz (by rintro (e | e); exact hnl _ (by omega) e; omega), hzs⟩, ?_,
  ownsRow_mod h.lo hmm hlo', ownsRow_mod (by simpa using ho) hm2 (fun k hk e => ?_), fun k h1 h2 => ?_, fun i hi => (h.lt i hi).mod hmm hfg hfg', fun i hi => ?_⟩
 ·rcases hc with hc | hc
  ·have := (huo i hc).1; omega
  ·omega
 ·rw [heap_setCell_same (hm.some h.h3 (fun e => hnl _ (by omega) e))]
  rfl
 ·have : k = b + 2 := e
  rcases hnew k hk with h1 | h1
  ·have := (huo k h1).1; omega
  ·omega
 ·rcases hnew k h2 with h3 | h3
  ·exact h.ne k h1 h3
  ·have := (hlo k h1).2; omega
 ·have hll : urow.length = ud.length * 2 := h.uo.1
  by_cases hil : i < ud.length
  ·rw [List.getElem_append_left hil]
   obtain ⟨g1, g2, nil, g3⟩ := h.ut i hil
   have e0 : ∀ j, j < 2 -> (urow ++ news).getD (i * 2 + j) undef = urow.getD (i * 2 + j) undef := fun j hj => by
    simp only [List.getD_eq_getElem?_getD]
    rw [List.getElem?_append_left (by omega)]
   refine ⟨(e0 0 (by omega)).trans g1, g2, nil, ?_⟩
   rw [e0 1 (by omega)]
   exact g3.mod hmm hfg hfg'
  ·have hi' : i = ud.length := by simp at hi; omega
   subst hi'
   rw [List.getElem_append_right (Nat.le_refl _)]
   simp only [Nat.sub_self, List.getElem_cons_zero]
   obtain ⟨g1, g2, nil, g3⟩ := ht
   have e0 : ∀ j, j < 2 -> (urow ++ news).getD (ud.length * 2 + j) undef = news.getD j undef := fun j hj => by
    simp only [List.getD_eq_getElem?_getD]
    rw [List.getElem?_append_right (by omega), show ud.length * 2 + j - urow.length = j by omega]
   refine ⟨(e0 0 (by omega)).trans g1, g2, nil, ?_⟩
   rw [e0 1 (by omega)]
   exact g3.mod hmm hfg hfg'
end Go.Proofs.YtmehfgiadapekaaGreat
set_option linter.unusedSimpArgs false
set_option linter.unusedVariables false
namespace Go.Proofs.YtmehfgiadapekaaGreat
open Go Go.RowKit
abbrev TI : Nat := 39
abbrev TS : Nat := 26
abbrev TG : Nat := 63
abbrev TGI : Nat := 64
def ldN (l : List Tr) (v : Value) : Nat := match v with | .int _ n => l.length - n.toNat | _ => 0
def udN (l : Tags) (v : Value) : Nat := match v with | .int _ n => l.length - n.toNat | _ => 0
theorem range5 {w : World} {b o : Nat} {c : Nat -> Value} (h : ∀ j, j < 5 -> w.cell? ⟨b, o + j, none⟩ = some (c j)) : w.rangeAt b o [c 0, c 1, c 2, c 3, c 4] := by
 intro j v hv
 match j, hv with
 | 0, hv => simp at hv; subst hv; exact h 0 (by omega)
 | 1, hv => simp at hv; subst hv; exact h 1 (by omega)
 | 2, hv => simp at hv; subst hv; exact h 2 (by omega)
 | 3, hv => simp at hv; subst hv; exact h 3 (by omega)
 | 4, hv => simp at hv; subst hv; exact h 4 (by omega)
 | j + 5, hv => simp at hv
theorem from5 (c : Nat -> Value) : ∀ j, j < 5 -> from' #[c 0, c 1, c 2, c 3, c 4] 0 j = c j := by
 intro j hj
 rcases (by omega : j = 0 \/ j = 1 \/ j = 2 \/ j = 3 \/ j = 4) with rfl | rfl | rfl | rfl | rfl <;> rfl
theorem all5 {c : Nat -> Value} (h : ∀ j, j < 5 -> (c j).oneCell' = true) : (#[c 0, c 1, c 2, c 3, c 4] : Array Value).all (·.oneCell') = true := by
 simp [h 0 (by omega), h 1 (by omega), h 2 (by omega), h 3 (by omega), h 4 (by omega)]
theorem arr5 {cs : Array Value} (h : cs.size = 5) : cs = #[from' cs 0 0, from' cs 0 1, from' cs 0 2, from' cs 0 3, from' cs 0 4] := by
 apply Array.ext
 ·simp [h]
 ·intro i h1 h2
  have h3 : cs[i] = from' cs 0 i := by simp [from', h1]
  rw [h3]
  have : i < 5 := by omega
  rcases (by omega : i = 0 \/ i = 1 \/ i = 2 \/ i = 3 \/ i = 4) with rfl | rfl | rfl | rfl | rfl <;> rfl
end Go.Proofs.YtmehfgiadapekaaGreat
set_option linter.unusedSimpArgs false
set_option linter.unusedVariables false
namespace Go.Proofs.YtmehfgiadapekaaGreat
open Go Go.RowKit
abbrev fSame : Nat := 9
theorem oct_slice {w : World} {F : Nat -> Prop} {v : Value} {s : List UInt8} {nil : Bool} (h : Oct w F v s nil) : ∃ ao cap, v = .slice ao s.length cap /\ s.length <= maxLen /\
  (0 < s.length -> ∃ sb off c t fr, ao = some ⟨sb, off, none⟩ /\ w.heap[sb]? = some (.cells c t fr) /\ ∀ i (h : i < s.length), c[off + i]? = some (.int .u8 (s[i]).toNat)) := by
 rcases h with ⟨sb, _, h⟩ | ⟨rfl, ao, cap, h, _⟩
 ·rcases h with ⟨_, h, hs⟩ | ⟨_, off, cap, c, t, fr, h, h1, h2, h3, h4⟩
  ·subst hs
   exact ⟨none, 0, h, by simp, fun h => by simp at h⟩
  ·exact ⟨_, cap, h, by omega, fun _ => ⟨sb, off, c, t, fr, rfl, h3, h4⟩⟩
 ·exact ⟨ao, cap, h, by simp, fun h => by simp at h⟩
def lenN (n : Nat) (v : Value) : Nat := match v with | .int _ m => n - m.toNat | _ => 0
/-- octets that can be read -/
def OctS (w : World) (v : Value) (s : List UInt8) : Prop := ∃ ao cap, v = .slice ao s.length cap /\ s.length <= maxLen /\
  (0 < s.length -> ∃ sb off c t fr, ao = some ⟨sb, off, none⟩ /\ w.heap[sb]? = some (.cells c t fr) /\ ∀ i (h : i < s.length), c[off + i]? = some (.int .u8 (s[i]).toNat))
set_option maxRecDepth 20000 in
theorem same_octs {w : World} {va vb : Value} {s : List UInt8} (ha : OctS w va s) (hb : OctS w vb s) :
  Calls Tryz.prog fSame #[va, vb] w fun e w' => e = .returned (.bool true) /\ Mod none' w w' := by
 obtain ⟨aoa, capa, hva, hla, hca⟩ := ha
 obtain ⟨aob, capb, hvb, hlb, hcb⟩ := hb
 simp only [maxLen] at hla
 refine calls_of_wp Tryz.func9 rfl ?_
 show Code.wp _ _ _ { tmps := (#[va, vb] : Array Value) ++ Array.replicate (26 - (#[va, vb] : Array Value).size) undef, defers := [] } w
 refine wp_act (fun a : Act => Act.get a 0 = va /\ Act.get a 1 = vb /\ a.tmps.size = 26 /\ a.defers = []) ⟨?_, ?_, ?_, rfl⟩ ?_
 ·rw [Zj _ _ _ (by simp)]; rfl
 ·rw [Zj _ _ _ (by simp)]; rfl
 ·simp
 rintro a0 ⟨g0, g1, gN, gd⟩
 refine wp_seq (wp_region_lit (Zv rfl Zi (wpList_nil ?_)))
 refine wp_seq (wp_seq (wp_region_lit ?_))
 refine Zv rfl Zm (Zv rfl (x_len (by kernel_rfl) rfl (ao := aoa) (cap := capa) (n := s.length) ?_) (Zv rfl Zm (Zv rfl (x_len (by kernel_rfl) rfl (ao := aob) (cap := capb) (n := s.length) ?_) (Zv rfl (x_neqI (k := .i64) (m := s.length) (n := s.length) ?_ ?_) (wpList_nil ?_)))))
 ·simp (disch := first | omega | simp only [Zs]; omega) only [Zo, Ze, Zn, Zq, g0, hva]
 ·simp (disch := first | omega | simp only [Zs]; omega) only [Zo, Ze, Zn, Zq, g1, hvb]
 ·simp (disch := first | omega | simp only [Zs]; omega) only [Zo, Ze, Zn, Zq]
 ·simp (disch := first | omega | simp only [Zs]; omega) only [Zo, Ze, Zn, Zq]
 refine wp_cond_false ?_ (wp_skip ?_)
 ·simp (disch := first | omega | simp only [Zs]; omega) only [Zo, Ze, Zn, Zq]
  simp
 refine wp_seq (wp_seq (wp_region_lit ?_))
 refine Zv rfl Zm (Zv rfl (x_len (by kernel_rfl) rfl (ao := aoa) (cap := capa) (n := s.length) ?_) (Zv rfl Zm (wpList_nil ?_)))
 ·simp (disch := first | omega | simp only [Zs]; omega) only [Zo, Ze, Zn, Zq, g0, hva]
 refine wp_block ?_
 refine wp_loop (fun a w' => a.tmps.size = 26 /\ a.defers = [] /\ Act.get a 0 = va /\ Act.get a 1 = vb /\ Act.get a 12 = .int .i64 s.length /\ Mod none' w w' /\ ∃ i, i <= s.length /\ Act.get a 13 = .int .i64 (i : Nat)) (fun a _ => lenN s.length (Act.get a 13)) ⟨?_, ?_, ?_, ?_, ?_, .refl w, 0, Nat.zero_le _, ?_⟩ ?_
 ·simp only [Zs]; exact gN
 ·simp only [Zd]; exact gd
 ·simp (disch := first | omega | simp only [Zs]; omega) only [Zo, Ze, Zn, Zq, g0]
 ·simp (disch := first | omega | simp only [Zs]; omega) only [Zo, Ze, Zn, Zq, g1]
 ·simp (disch := first | omega | simp only [Zs]; omega) only [Zo, Ze, Zn, Zq]
 ·simp (disch := first | omega | simp only [Zs]; omega) only [Zo, Ze, Zn, Zq]
  rfl
 rintro a w' ⟨aN, ad, p0, p1, p12, hm, i, hi, p13⟩
 refine wp_seq (wp_region_lit (Zv rfl (x_lss (k := .i64) (m := (i : Nat)) (n := (s.length : Nat)) ?_ ?_) (wpList_nil ?_)))
 ·exact p13
 ·exact p12
 by_cases hil : i < s.length
 case neg =>
  refine wp_seq (wp_cond_false ?_ (wp_exit ?_))
  ·rw [Ze, Zq (by omega)]; simp; omega
  simp only [Exit.then, Exit.inBlock, if_true]
  refine wp_seq (wp_region_lit (Zv rfl Zi (wpList_nil (wp_ret (bodyPost_ret (results_tmp rfl _ _ _) ?_ ⟨?_, hm⟩)))))
  ·simp only [Zd]; exact ad
  ·show Ending.returned (Act.get _ 4) = _
   simp (disch := first | omega | simp only [Zs]; omega) only [Zo, Ze, Zn, Zq]
   rfl
 case pos =>
  refine wp_seq (wp_cond_true ?_ (wp_skip ?_))
  ·rw [Ze, Zq (by omega)]; simp; omega
  obtain ⟨sa, oa, ca, ta, fra, ea, hha, hea⟩ := hca (by omega)
  obtain ⟨sb, ob, cb, tb, frb, eb, hhb, heb⟩ := hcb (by omega)
  refine wp_seq (wp_block (wp_seq (wp_region_lit (Zv rfl Zm (Zv rfl Zi (wpList_nil ?_))))))
  refine wp_act (fun a : Act => Act.get a 0 = va /\ Act.get a 1 = vb /\ Act.get a 12 = .int .i64 s.length /\ Act.get a 13 = .int .i64 (i : Nat) /\ Act.get a 5 = .int .i64 (i : Nat) /\ a.tmps.size = 26 /\ a.defers = []) ⟨?_, ?_, ?_, ?_, ?_, ?_, ?_⟩ ?_
  ·simp (disch := first | omega | simp only [Zs]; omega) only [Zo, Ze, Zn, Zq, p0]
  ·simp (disch := first | omega | simp only [Zs]; omega) only [Zo, Ze, Zn, Zq, p1]
  ·simp (disch := first | omega | simp only [Zs]; omega) only [Zo, Ze, Zn, Zq, p12]
  ·simp (disch := first | omega | simp only [Zs]; omega) only [Zo, Ze, Zn, Zq, p13]
  ·simp (disch := first | omega | simp only [Zs]; omega) only [Zo, Ze, Zn, Zq, p13]
  ·simp only [Zs]; exact aN
  ·simp only [Zd]; exact ad
  rintro a1 ⟨q0, q1, q12, q13, q5, qN, qd⟩
  have p13' := p13
  clear aN ad p0 p1 p12 p13
  refine wp_seq (region_vals (l := [_, _, _, _, _, _, _, _]) (tl := [_]) rfl [16, 17, 18, 19, 20, 21, 22, 23]
   [va, .int .i64 (i : Nat), .pointer (some ⟨sa, oa + i * 1, none⟩), .int .u8 (s[i]).toNat, vb, .int .i64 (i : Nat), .pointer (some ⟨sb, ob + i * 1, none⟩), .int .u8 (s[i]).toNat] rfl rfl (by decide) (by simp [qN]) (by simp) (by kernel_rfl) ⟨?_, ?_, ?_, ?_, ?_, ?_, ?_, ?_, trivial⟩ ?_)
  ·intro a2 w2 hr hs hd
   exact vstep_val rfl rfl (by rw [show va = a2.eval (.tmp 0) from ((hs.get 0 (by decide)).trans q0).symm]; exact Zm)
  ·intro a2 w2 hr hs hd
   exact vstep_val rfl rfl (by rw [show Value.int .i64 (i : Nat) = a2.eval (.tmp 5) from ((hs.get 5 (by decide)).trans q5).symm]; exact Zm)
  ·intro a2 w2 hr hs hd
   have d0 : Act.get a2 16 = va := hd ⟨0, .data⟩ (by simp) rfl
   have d1 : Act.get a2 17 = .int .i64 (i : Nat) := hd ⟨1, .data⟩ (by simp) rfl
   exact vstep_val rfl rfl (Zx (sz := 1) (i := i) (b := sa) (o := oa) (n := s.length) (cap := capa) (k := .i64) (by kernel_rfl) (d0.trans (hva.trans (by rw [ea]))) d1 hil)
  ·intro a2 w2 hr hs hd
   have d2 : Act.get a2 18 = .pointer (some ⟨sa, oa + i * 1, none⟩) := hd ⟨2, .data⟩ (by simp) rfl
   exact vstep_val rfl rfl (Zl (by kernel_rfl) (b := sa) (o := oa + i * 1) d2 (by rw [Zc (hr.some (hm.some hha (fun f => f)) (fun f => f)), Nat.mul_one]; exact hea i hil))
  ·intro a2 w2 hr hs hd
   exact vstep_val rfl rfl (by rw [show vb = a2.eval (.tmp 1) from ((hs.get 1 (by decide)).trans q1).symm]; exact Zm)
  ·intro a2 w2 hr hs hd
   exact vstep_val rfl rfl (by rw [show Value.int .i64 (i : Nat) = a2.eval (.tmp 5) from ((hs.get 5 (by decide)).trans q5).symm]; exact Zm)
  ·intro a2 w2 hr hs hd
   have d0 : Act.get a2 20 = vb := hd ⟨4, .data⟩ (by simp) rfl
   have d1 : Act.get a2 21 = .int .i64 (i : Nat) := hd ⟨5, .data⟩ (by simp) rfl
   exact vstep_val rfl rfl (Zx (sz := 1) (i := i) (b := sb) (o := ob) (n := s.length) (cap := capb) (k := .i64) (by kernel_rfl) (d0.trans (hvb.trans (by rw [eb]))) d1 hil)
  ·intro a2 w2 hr hs hd
   have d2 : Act.get a2 22 = .pointer (some ⟨sb, ob + i * 1, none⟩) := hd ⟨6, .data⟩ (by simp) rfl
   exact vstep_val rfl rfl (Zl (by kernel_rfl) (b := sb) (o := ob + i * 1) d2 (by rw [Zc (hr.some (hm.some hhb (fun f => f)) (fun f => f)), Nat.mul_one]; exact heb i hil))
  intro a2 w2 hr hs hh
  have d3 : Act.get a2 19 = .int .u8 (s[i]).toNat := hh 3 (by decide)
  have d7 : Act.get a2 23 = .int .u8 (s[i]).toNat := hh 7 (by decide)
  have zN : a2.tmps.size = 26 := hs.size.trans qN
  refine Zv rfl (x_neqI (k := .u8) d3 d7) (wpList_nil ?_)
  refine wp_cond_false ?_ (wp_skip ?_)
  ·simp (disch := first | omega | simp only [Zs]; omega) only [Zo, Ze, Zn, Zq]
   simp
  simp only [Exit.then, Exit.inBlock]
  have hbz : ∀ t, t ∉ [16, 17, 18, 19, 20, 21, 22, 23] -> Act.get a2 t = Act.get a1 t := fun t ht => hs.get t ht
  refine wp_region_lit (Zv rfl (x_add (k := .i64) (m := (i : Nat)) (n := 1) ?_ rfl) (Zv rfl Zm (wpList_nil ?_)))
  ·simp (disch := first | omega | simp only [Zs]; omega) only [Zo, Ze, Zn, Zq, hbz 13 (by decide)]
   exact q13
  have hwrap : IntKind.i64.wrap ((i : Int) + 1) = ((i + 1 : Nat) : Int) := by rw [IntKind.wrap_i64]; omega
  refine ⟨⟨?_, ?_, ?_, ?_, ?_, hm.trans hr, i + 1, by omega, ?_⟩, ?_⟩
  ·simp only [Zs]; exact zN
  ·simp only [Zd]; exact hs.defers.trans qd
  ·simp (disch := first | omega | simp only [Zs]; omega) only [Zo, Ze, Zn, Zq, hbz 0 (by decide), q0]
  ·simp (disch := first | omega | simp only [Zs]; omega) only [Zo, Ze, Zn, Zq, hbz 1 (by decide), q1]
  ·simp (disch := first | omega | simp only [Zs]; omega) only [Zo, Ze, Zn, Zq, hbz 12 (by decide), q12]
  ·simp (disch := first | omega | simp only [Zs]; omega) only [Zo, Ze, Zn, Zq]
   rw [hwrap]
  ·simp (disch := first | omega | simp only [Zs]; omega) only [Zo, Ze, Zn, Zq]
   rw [hwrap, p13']
   simp only [lenN, Int.toNat_natCast]
   omega
end Go.Proofs.YtmehfgiadapekaaGreat
set_option linter.unusedSimpArgs false
set_option linter.unusedVariables false
