/-
  The laws' copy of a tree.
-/
import Derived.Test.YtadfbhmpehnkeaaDoorKTelR
set_option linter.unusedSimpArgs false
set_option linter.unusedVariables false
namespace Go.Proofs.YtadfbhmpehnkeaaDoor
open Go Go.RowKit

theorem elems_own {w : World} {base : Nat} {e : TypeId} {sz : Nat} {v : Value} {n : Nat} {xs : List Value} {F : Nat → Prop} (h : w.ownsRow base e sz v n xs) (hF : ∀ k, v.ownBlock = some k → F k) :
    Elems w F v n sz (fun i j => xs.getD (i * sz + j) undef) := by
  rcases h.2 with ⟨h1, h2⟩ | ⟨g, cap, cur, rfl, hb, hg, hnc, hcm, hsz, htake⟩
  · exact .inl ⟨h2, h1⟩
  · refine .inr ⟨g, 0, cap, cur, e, (0, 0), hF g rfl, rfl, hnc, hcm, hg, fun i hi j hj => ?_⟩
    have h3 : i * sz + j < n * sz := by
      have := Nat.mul_le_mul_right sz (show i + 1 ≤ n by omega)
      rw [Nat.add_mul] at this
      omega
    have h4 : n * sz ≤ cap * sz := Nat.mul_le_mul_right _ hnc
    have : xs[i * sz + j]? = cur[i * sz + j]? := by rw [← htake, List.getElem?_take, if_pos h3, Array.getElem?_toList]
    rw [Nat.zero_add]
    simp only [List.getD_eq_getElem?_getD, this]
    rw [Array.getElem?_eq_getElem (by omega)]
    rfl

/-- the blocks in which the parts of the copy may lie -/
abbrev FG (F : Nat → Prop) (b : Nat) (lv uv : Value) (w : World) : Nat → Prop := fun k => F k ∨ (b + 3 ≤ k ∧ lv.ownBlock ≠ some k ∧ uv.ownBlock ≠ some k ∧ k < w.heap.size)
structure GMem (TI TS TG b : Nat) (F : Nat → Prop) (cs : Array Value) (w0 w : World) (lv uv : Value) (lrow urow : List Value) (ld : List Tr) (ud : Tags) : Prop where
  mod : Mod none' w0 w
  size : b + 3 ≤ w.heap.size
  h1 : w.heap[b]? = some (.cells cs TI (0, 0))
  h2 : ∃ z, w.heap[b + 1]? = some (.cells z TS (0, 0)) ∧ z.size = 5
  h3 : w.heap[b + 2]? = some (.cells #[cs.getD 0 undef, cs.getD 1 undef, cs.getD 2 undef, lv, uv] TS (0, 0))
  lo : w.ownsRow (b + 3) TS 5 lv ld.length lrow
  uo : w.ownsRow (b + 3) TG 2 uv ud.length urow
  ne : ∀ k, lv.ownBlock = some k → uv.ownBlock ≠ some k
  lt : ∀ i (h : i < ld.length), TreeR w (FG F b lv uv w) (fun j => lrow.getD (i * 5 + j) undef) ld[i]
  ut : ∀ i (h : i < ud.length), urow.getD (i * 2 + 0) undef = .int .u32 (ud[i]).1 ∧ fits .u32 (ud[i]).1 ∧ ∃ nil, Oct w (FG F b lv uv w) (urow.getD (i * 2 + 1) undef) (ud[i]).2 nil

/-- what is made anew does no harm -/
theorem GMem.grow {TI TS TG b : Nat} {F : Nat → Prop} {cs : Array Value} {w0 w w' : World} {lv uv : Value} {lrow urow : List Value} {ld : List Tr} {ud : Tags} (h : GMem TI TS TG b F cs w0 w lv uv lrow urow ld ud) (hm : Mod none' w w') :
    GMem TI TS TG b F cs w0 w' lv uv lrow urow ld ud := by
  obtain ⟨z, hz, hzs⟩ := h.h2
  have hs := hm.size
  have hF : ∀ k, FG F b lv uv w k → FG F b lv uv w' k := fun k hk => hk.imp id fun hk => ⟨hk.1, hk.2.1, hk.2.2.1, by omega⟩
  refine ⟨h.mod.trans hm, by have := h.size; omega, hm.some h.h1 (fun f => f), ⟨z, hm.some hz (fun f => f), hzs⟩, hm.some h.h3 (fun f => f), ownsRow_mod h.lo hm (fun _ _ f => f), ownsRow_mod h.uo hm (fun _ _ f => f), h.ne,
    fun i hi => (h.lt i hi).mod hm (fun _ _ f => f) hF, fun i hi => ?_⟩
  obtain ⟨g1, g2, nil, g3⟩ := h.ut i hi
  exact ⟨g1, g2, nil, g3.mod hm (fun _ _ f => f) hF⟩

/-- one more part: the row has grown, then it is stored -/
theorem GMem.push {TI TS TG b : Nat} {F : Nat → Prop} {cs : Array Value} {w0 w w1 : World} {lv uv lv' : Value} {lrow urow news : List Value} {ld : List Tr} {ud : Tags} {t : Tr} (h : GMem TI TS TG b F cs w0 w lv uv lrow urow ld ud)
    (hF : ∀ k, F k → k < b) (hw0 : w0.heap.size = b) (hm : Mod (fun k => lv.ownBlock = some k) w w1) (ho : w1.ownsRow (b + 3) TS 5 lv' (ld.length + 1) (lrow ++ news)) (hn : news.length = 5)
    (hnew : ∀ k, lv'.ownBlock = some k → lv.ownBlock = some k ∨ w.heap.size ≤ k)
    (ht : TreeR w (fun k => F k ∨ (b + 3 ≤ k ∧ lv.ownBlock ≠ some k ∧ uv.ownBlock ≠ some k)) (fun j => news.getD j undef) t) :
    GMem TI TS TG b F cs w0 (w1.setCell ⟨b + 2, 3, none⟩ lv') lv' uv (lrow ++ news) urow (ld ++ [t]) ud := by
  obtain ⟨z, hz, hzs⟩ := h.h2
  have hlo := h.lo.lt
  have huo := h.uo.lt
  have hb3 := h.size
  have hm2 : Mod (only (b + 2)) w1 (w1.setCell ⟨b + 2, 3, none⟩ lv') := (Mod.refl w1).put _ _
  have hmm : Mod (fun k => lv.ownBlock = some k ∨ k = b + 2) w (w1.setCell ⟨b + 2, 3, none⟩ lv') := hm.trans' hm2 (fun _ _ h => .inl h) (fun _ _ h => .inr h)
  have hnl : ∀ k, k < b + 3 → lv.ownBlock ≠ some k := fun k hk e => by have := (hlo k e).1; omega
  have hsz1 := hm.size
  have hsz2 : (w1.setCell ⟨b + 2, 3, none⟩ lv').heap.size = w1.heap.size := by simp
  have huo' : ∀ k, uv.ownBlock = some k → ¬ (lv.ownBlock = some k ∨ k = b + 2) := fun k hk hc => by
    rcases hc with hc | hc
    · exact h.ne k hc hk
    · have := (huo k hk).1; omega
  have hfg : ∀ k, FG F b lv uv w k → ¬ (lv.ownBlock = some k ∨ k = b + 2) := fun k hk hc => by
    rcases hk with hk | hk
    · have := hF k hk
      rcases hc with hc | hc
      · have := (hlo k hc).1; omega
      · omega
    · rcases hc with hc | hc
      · exact hk.2.1 hc
      · omega
  have hfg' : ∀ k, FG F b lv uv w k → FG F b lv' uv (w1.setCell ⟨b + 2, 3, none⟩ lv') k := fun k hk => by
    rcases hk with hk | hk
    · exact .inl hk
    · refine .inr ⟨hk.1, fun e => ?_, hk.2.2.1, by rw [hsz2]; omega⟩
      rcases hnew k e with h1 | h1
      · exact hk.2.1 h1
      · omega
  refine ⟨h.mod.trans' hmm (fun _ _ f => f) (fun i hi hc => ?_), by rw [hsz2]; omega, hmm.some h.h1 (by rintro (e | e); exact hnl _ (by omega) e; omega), ⟨z, hmm.some hz (by rintro (e | e); exact hnl _ (by omega) e; omega), hzs⟩, ?_,
    ownsRow_mod (by simpa using ho) hm2 (fun k hk e => ?_), ownsRow_mod h.uo hmm huo', fun k h1 h2 => ?_, fun i hi => ?_, fun i hi => ?_⟩
  · rcases hc with hc | hc
    · have := (hlo i hc).1; omega
    · omega
  · rw [heap_setCell_same (hm.some h.h3 (fun e => hnl _ (by omega) e))]
    rfl
  · have : k = b + 2 := e
    rcases hnew k hk with h1 | h1
    · have := (hlo k h1).1; omega
    · omega
  · rcases hnew k h1 with h3 | h3
    · exact h.ne k h3 h2
    · have := (huo k h2).2; omega
  · have hll : lrow.length = ld.length * 5 := h.lo.1
    by_cases hil : i < ld.length
    · rw [List.getElem_append_left hil]
      refine ((h.lt i hil).congr fun j hj => ?_).mod hmm hfg hfg'
      simp only [List.getD_eq_getElem?_getD]
      rw [List.getElem?_append_left (by omega)]
    · have hi' : i = ld.length := by simp at hi; omega
      subst hi'
      rw [List.getElem_append_right (Nat.le_refl _)]
      simp only [Nat.sub_self, List.getElem_cons_zero]
      refine ((ht.lt).congr fun j hj => ?_).mod hmm (fun k hk => ?_) (fun k hk => ?_)
      · simp only [List.getD_eq_getElem?_getD]
        rw [List.getElem?_append_right (by omega), show ld.length * 5 + j - lrow.length = j by omega]
      · exact hfg k (hk.1.imp id fun h => ⟨h.1, h.2.1, h.2.2, hk.2⟩)
      · exact hfg' k (hk.1.imp id fun h => ⟨h.1, h.2.1, h.2.2, hk.2⟩)
  · obtain ⟨g1, g2, nil, g3⟩ := h.ut i hi
    exact ⟨g1, g2, nil, g3.mod hmm hfg hfg'⟩
/-- one more tag -/
theorem GMem.pushU {TI TS TG b : Nat} {F : Nat → Prop} {cs : Array Value} {w0 w w1 : World} {lv uv uv' : Value} {lrow urow news : List Value} {ld : List Tr} {ud : Tags} {q : Int × List UInt8} (h : GMem TI TS TG b F cs w0 w lv uv lrow urow ld ud)
    (hF : ∀ k, F k → k < b) (hw0 : w0.heap.size = b) (hm : Mod (fun k => uv.ownBlock = some k) w w1) (ho : w1.ownsRow (b + 3) TG 2 uv' (ud.length + 1) (urow ++ news)) (hn : news.length = 2)
    (hnew : ∀ k, uv'.ownBlock = some k → uv.ownBlock = some k ∨ w.heap.size ≤ k)
    (ht : news.getD 0 undef = .int .u32 q.1 ∧ fits .u32 q.1 ∧ ∃ nil, Oct w (FG F b lv uv w) (news.getD 1 undef) q.2 nil) :
    GMem TI TS TG b F cs w0 (w1.setCell ⟨b + 2, 4, none⟩ uv') lv uv' lrow (urow ++ news) ld (ud ++ [q]) := by
  obtain ⟨z, hz, hzs⟩ := h.h2
  have hlo := h.lo.lt
  have huo := h.uo.lt
  have hb3 := h.size
  have hm2 : Mod (only (b + 2)) w1 (w1.setCell ⟨b + 2, 4, none⟩ uv') := (Mod.refl w1).put _ _
  have hmm : Mod (fun k => uv.ownBlock = some k ∨ k = b + 2) w (w1.setCell ⟨b + 2, 4, none⟩ uv') := hm.trans' hm2 (fun _ _ h => .inl h) (fun _ _ h => .inr h)
  have hnl : ∀ k, k < b + 3 → uv.ownBlock ≠ some k := fun k hk e => by have := (huo k e).1; omega
  have hsz1 := hm.size
  have hsz2 : (w1.setCell ⟨b + 2, 4, none⟩ uv').heap.size = w1.heap.size := by simp
  have hlo' : ∀ k, lv.ownBlock = some k → ¬ (uv.ownBlock = some k ∨ k = b + 2) := fun k hk hc => by
    rcases hc with hc | hc
    · exact h.ne k hk hc
    · have := (hlo k hk).1; omega
  have hfg : ∀ k, FG F b lv uv w k → ¬ (uv.ownBlock = some k ∨ k = b + 2) := fun k hk hc => by
    rcases hk with hk | hk
    · have := hF k hk
      rcases hc with hc | hc
      · have := (huo k hc).1; omega
      · omega
    · rcases hc with hc | hc
      · exact hk.2.2.1 hc
      · omega
  have hfg' : ∀ k, FG F b lv uv w k → FG F b lv uv' (w1.setCell ⟨b + 2, 4, none⟩ uv') k := fun k hk => by
    rcases hk with hk | hk
    · exact .inl hk
    · refine .inr ⟨hk.1, hk.2.1, fun e => ?_, by rw [hsz2]; omega⟩
      rcases hnew k e with h1 | h1
      · exact hk.2.2.1 h1
      · omega
  refine ⟨h.mod.trans' hmm (fun _ _ f => f) (fun i hi hc => ?_), by rw [hsz2]; omega, hmm.some h.h1 (by rintro (e | e); exact hnl _ (by omega) e; omega), ⟨z, hmm.some hz (by rintro (e | e); exact hnl _ (by omega) e; omega), hzs⟩, ?_,
    ownsRow_mod h.lo hmm hlo', ownsRow_mod (by simpa using ho) hm2 (fun k hk e => ?_), fun k h1 h2 => ?_, fun i hi => (h.lt i hi).mod hmm hfg hfg', fun i hi => ?_⟩
  · rcases hc with hc | hc
    · have := (huo i hc).1; omega
    · omega
  · rw [heap_setCell_same (hm.some h.h3 (fun e => hnl _ (by omega) e))]
    rfl
  · have : k = b + 2 := e
    rcases hnew k hk with h1 | h1
    · have := (huo k h1).1; omega
    · omega
  · rcases hnew k h2 with h3 | h3
    · exact h.ne k h1 h3
    · have := (hlo k h1).2; omega
  · have hll : urow.length = ud.length * 2 := h.uo.1
    by_cases hil : i < ud.length
    · rw [List.getElem_append_left hil]
      obtain ⟨g1, g2, nil, g3⟩ := h.ut i hil
      have e0 : ∀ j, j < 2 → (urow ++ news).getD (i * 2 + j) undef = urow.getD (i * 2 + j) undef := fun j hj => by
        simp only [List.getD_eq_getElem?_getD]
        rw [List.getElem?_append_left (by omega)]
      refine ⟨(e0 0 (by omega)).trans g1, g2, nil, ?_⟩
      rw [e0 1 (by omega)]
      exact g3.mod hmm hfg hfg'
    · have hi' : i = ud.length := by simp at hi; omega
      subst hi'
      rw [List.getElem_append_right (Nat.le_refl _)]
      simp only [Nat.sub_self, List.getElem_cons_zero]
      obtain ⟨g1, g2, nil, g3⟩ := ht
      have e0 : ∀ j, j < 2 → (urow ++ news).getD (ud.length * 2 + j) undef = news.getD j undef := fun j hj => by
        simp only [List.getD_eq_getElem?_getD]
        rw [List.getElem?_append_right (by omega), show ud.length * 2 + j - urow.length = j by omega]
      refine ⟨(e0 0 (by omega)).trans g1, g2, nil, ?_⟩
      rw [e0 1 (by omega)]
      exact g3.mod hmm hfg hfg'
end Go.Proofs.YtadfbhmpehnkeaaDoor
