/-
  A row of one's own that grows by things that lie elsewhere. No program in it.
-/
import Derived.Test.YtmehfgiadapekaaGreatPWs
set_option linter.unusedSimpArgs false
set_option linter.unusedVariables false
namespace Go.Proofs.YtmehfgiadapekaaGreat
open Go Go.RowKit
/-- what a relation between cells and things must bear -/
structure RlOk {α : Type} (Rl : World -> (Nat -> Prop) -> (Nat -> Value) -> α -> Prop) (sz : Nat) : Prop where
 mod : ∀ {w w' : World} {F F' S : Nat -> Prop} {c : Nat -> Value} {t : α}, Rl w F c t -> Mod S w w' -> (∀ k, F k -> ¬ S k) -> (∀ k, F k -> F' k) -> Rl w' F' c t
 congr : ∀ {w : World} {F : Nat -> Prop} {c c' : Nat -> Value} {t : α}, Rl w F c t -> (∀ j, j < sz -> c' j = c j) -> Rl w F c' t
 lt : ∀ {w : World} {F : Nat -> Prop} {c : Nat -> Value} {t : α}, Rl w F c t -> Rl w (fun k => F k /\ k < w.heap.size) c t
/-- where the things of a row lie -/
def FR (F : Nat -> Prop) (B : Nat) (lv : Value) (w : World) : Nat -> Prop := fun k => (F k \/ B <= k) /\ lv.ownBlock ≠ some k /\ k < w.heap.size
/-- a row of one's own, at or above B -/
structure RowG {α : Type} (Rl : World -> (Nat -> Prop) -> (Nat -> Value) -> α -> Prop) (e sz B : Nat) (F : Nat -> Prop) (w : World) (lv : Value) (lrow : List Value) (ld : List α) : Prop where
 own : w.ownsRow B e sz lv ld.length lrow
 els : ∀ i (h : i < ld.length), Rl w (FR F B lv w) (fun j => lrow.getD (i * sz + j) undef) ld[i]
section
variable {α : Type} {Rl : World -> (Nat -> Prop) -> (Nat -> Value) -> α -> Prop} {e sz B : Nat} {F : Nat -> Prop} {w w1 w' : World} {lv lv' : Value} {lrow news : List Value} {ld : List α} {t : α}
theorem RowG.nil (w : World) : RowG Rl e sz B F w (.slice none 0 0) [] [] := ⟨World.ownsRow_nil w _ _ _, fun i h => by simp at h⟩
theorem RowG.mod {S : Nat -> Prop} (hok : RlOk Rl sz) (h : RowG Rl e sz B F w lv lrow ld) (hm : Mod S w w') (hs : ∀ k, S k -> ¬ F k /\ k < B) : RowG Rl e sz B F w' lv lrow ld := by
 have hsz := hm.size
 refine ⟨ownsRow_mod h.own hm (fun k hk e => ?_), fun i hi => hok.mod (h.els i hi) hm (fun k hk e => ?_) (fun k hk => ⟨hk.1, hk.2.1, by have := hk.2.2; omega⟩)⟩
 ·have := (h.own.lt k hk).1
  have := (hs k e).2
  omega
 ·obtain ⟨h1, h2⟩ := hs k e
  rcases hk.1 with h3 | h3
  ·exact h1 h3
  ·omega
theorem RowG.grow (hok : RlOk Rl sz) (h : RowG Rl e sz B F w lv lrow ld) (hm : Mod none' w w') : RowG Rl e sz B F w' lv lrow ld := h.mod hok hm (fun _ f => f.elim)
theorem RowG.push (hok : RlOk Rl sz) (h : RowG Rl e sz B F w lv lrow ld) (hm : Mod (fun k => lv.ownBlock = some k) w w1) (ho : w1.ownsRow B e sz lv' (ld.length + 1) (lrow ++ news)) (hn : news.length = sz)
  (hnew : ∀ k, lv'.ownBlock = some k -> lv.ownBlock = some k \/ w.heap.size <= k) (ht : Rl w (FR F B lv w) (fun j => news.getD j undef) t) : RowG Rl e sz B F w1 lv' (lrow ++ news) (ld ++ [t]) := by
 have hsz := hm.size
 have hll : lrow.length = ld.length * sz := h.own.1
 have hf : ∀ k, FR F B lv w k -> FR F B lv' w1 k := fun k hk => ⟨hk.1, fun e => by
  rcases hnew k e with h1 | h1
  ·exact hk.2.1 h1
  ·have := hk.2.2; omega, by have := hk.2.2; omega⟩
 refine ⟨by simpa using ho, fun i hi => ?_⟩
 by_cases hil : i < ld.length
 ·rw [List.getElem_append_left hil]
  refine hok.mod (hok.congr (h.els i hil) fun j hj => ?_) hm (fun k hk => hk.2.1) hf
  have := Nat.mul_le_mul_right sz (show i + 1 <= ld.length by omega)
  rw [Nat.add_mul] at this
  simp only [List.getD_eq_getElem?_getD]
  rw [List.getElem?_append_left (by omega)]
 ·have hi' : i = ld.length := by simp at hi; omega
  subst hi'
  rw [List.getElem_append_right (Nat.le_refl _)]
  simp only [Nat.sub_self, List.getElem_cons_zero]
  refine hok.mod (hok.congr ht fun j hj => ?_) hm (fun k hk => hk.2.1) hf
  simp only [List.getD_eq_getElem?_getD]
  rw [List.getElem?_append_right (by omega), show ld.length * sz + j - lrow.length = j by omega]
theorem RowG.el (hok : RlOk Rl sz) (h : RowG Rl e sz B F w lv lrow ld) : ∀ i (hi : i < ld.length), Rl w (fun k => F k \/ B <= k) (fun j => lrow.getD (i * sz + j) undef) ld[i] := fun i hi => hok.mod (h.els i hi) (Mod.refl (S := none') w) (fun _ _ f => f) (fun k hk => hk.1)
end
/-- trees -/
theorem treeR_ok : RlOk TreeR 5 := ⟨fun h hm hs hf => h.mod hm hs hf, fun h hc => h.congr hc, fun h => h.lt⟩
/-- tags -/
def TagR (w : World) (F : Nat -> Prop) (c : Nat -> Value) (p : Int × List UInt8) : Prop := c 0 = .int .u32 p.1 /\ fits .u32 p.1 /\ ∃ nil, Oct w F (c 1) p.2 nil
theorem tagR_ok : RlOk TagR 2 := ⟨fun h hm hs hf => ⟨h.1, h.2.1, h.2.2.imp fun _ q => q.mod hm hs hf⟩, fun h hc => ⟨(hc 0 (by omega)).trans h.1, h.2.1, by rw [hc 1 (by omega)]; exact h.2.2⟩, fun h => ⟨h.1, h.2.1, h.2.2.imp fun _ q => q.lt⟩⟩
/-- a tree out of its rows -/
theorem tree_rows {w : World} {TS TG B B' : Nat} {F : Nat -> Prop} {lv uv : Value} {lrow urow : List Value} {ld : List Tr} {ud : Tags} {z : Bool} {c : Nat -> Value} (h : RowG TreeR TS 5 B F w lv lrow ld) (h' : RowG TagR TG 2 B' F w uv urow ud) (hb : ld.length <= 4294967295 /\ ud.length <= 4294967295)
  (h0 : c 0 = .int .i64 0) (h1 : c 1 = .slice none 0 0) (h2 : c 2 = .bool z) (h3 : c 3 = lv) (h4 : c 4 = uv) {F' : Nat -> Prop} (hf : ∀ k, F k \/ B <= k -> F' k) (hf' : ∀ k, F k \/ B' <= k -> F' k) : TreeR w F' c (.mk 0 [] z ld ud) := by
 refine .mk (f := fun i j => lrow.getD (i * 5 + j) undef) (g := fun i j => urow.getD (i * 2 + j) undef) h0 (fits_zero _) (nil := true) (by rw [h1]; exact oct_nil) h2 hb ?_ (fun i hi => (h.el treeR_ok i hi).mod (Mod.refl (S := none') w) (fun _ _ f => f) hf) ?_ (fun i hi => ?_)
 ·rw [h3]; exact Elems.of_owns h.own (fun k hk => hf k (.inr (h.own.lt k hk).1))
 ·rw [h4]; exact Elems.of_owns h'.own (fun k hk => hf' k (.inr (h'.own.lt k hk).1))
 ·exact tagR_ok.mod (h'.el tagR_ok i hi) (Mod.refl (S := none') w) (fun _ _ f => f) hf'
/-- octets that came in, as part of a tree -/
theorem OctI.to_oct {w : World} {v : Value} {bs : List UInt8} (h : OctI w v bs) : ∃ nil, Oct w (fun k => k < w.heap.size) v bs nil := by
 rcases h with ⟨rfl, ao, cap, h⟩ | ⟨sb, off, cap, c, t, fr, h1, h2, h3, h4, h5⟩
 ·exact ⟨ao.isNone, .inr ⟨rfl, ao, cap, h, rfl⟩⟩
 ·exact ⟨false, .inl ⟨sb, .inr (lt_of_block h4), .inr ⟨rfl, off, cap, c, t, fr, h1, h2, h3, h4, h5⟩⟩⟩
end Go.Proofs.YtmehfgiadapekaaGreat
