/-
  Rules for the code that reads a message: tests of the version, choices, loops, lists. No program in it.
  Rules for the code that reads a list. No program in it.
  Rules for the code that reads a message's parts: a list as a field; elements; parts within. No program in it.
  Rules for the code that reads a message's parts: a list as a field. No program in it.
-/
import Derived.Deep.LoopGhost
import Derived.Lib.AppendZerosOnto
import Derived.Test.YtmehfgiadapekaaGreatPAppB
set_option linter.unusedSimpArgs false
set_option linter.unusedVariables false
namespace Go.Proofs.YtmehfgiadapekaaGreat
open Go Go.RowKit
section
variable {w : World} {F : Nat -> Prop}
theorem Oct.lt' {v : Value} {bs : List UInt8} {nil : Bool} (h : Oct w F v bs nil) : Oct w (fun k => F k /\ k < w.heap.size) v bs nil := by
 rcases h with ⟨sb, h1, h2⟩ | h
 ·left
  rcases h1 with rfl | h1
  ·exact ⟨sb, .inl rfl, h2⟩
  ·rcases h2 with h2 | h2
   ·obtain ⟨rfl, h3, h4⟩ := h2
    exact ⟨sb, .inl rfl, .inl ⟨rfl, h3, h4⟩⟩
   ·obtain ⟨h3, off, cap, c, t, fr, h4, h5, h6, h7, h8⟩ := h2
    exact ⟨sb, .inr ⟨h1, lt_of_block h7⟩, .inr ⟨h3, off, cap, c, t, fr, h4, h5, h6, h7, h8⟩⟩
 ·exact .inr h
theorem PStr.lt' {v : Value} {o : Option (List UInt8)} (h : PStr w F v o) : PStr w (fun k => F k /\ k < w.heap.size) v o := by
 cases o with
 | none => exact h
 | some bs => obtain ⟨k, t, h1, h2, h3⟩ := h; exact ⟨k, t, ⟨h1, lt_of_block h3⟩, h2, h3⟩
theorem TagsR.lt' {v : Value} {u : Tags} (h : TagsR w F v u) : TagsR w (fun k => F k /\ k < w.heap.size) v u := by
 rcases h with h | ⟨r, es, clock, h1, h2, h3, h4, hlen, h4', kb, h5, h6, h7, h8⟩
 ·exact .inl h
 ·refine .inr ⟨r, es, clock, ⟨h1, lt_of_block h3⟩, h2, h3, h4, hlen, h4', kb, h5, h6, h7, fun i hi => ?_⟩
  obtain ⟨e, nil, g1, g2, g3, g4⟩ := h8 i hi
  exact ⟨e, nil, g1, g2, g3.lt', g4⟩
mutual
theorem Rep.lt : ∀ (ty : Ty) (c : Nat -> Value) (t : Tr), Rep w F ty c t -> Rep w (fun k => F k /\ k < w.heap.size) ty c t
 | .int k, c, t, h => h
 | .bool, c, t, h => h
 | .float, c, t, h => h
 | .str, c, t, h => h
 | .pstr, c, t, h => by
  simp only [Rep] at h ⊢
  obtain ⟨o, h1, h2⟩ := h; exact ⟨o, h1.lt', h2⟩
 | .bytes, c, t, h => by
  simp only [Rep] at h ⊢
  obtain ⟨bs, nil, h1, h2⟩ := h; exact ⟨bs, nil, h1.lt', h2⟩
 | .uuid, c, t, h => h
 | .list e sz, c, t, h => by
  simp only [Rep] at h ⊢
  rcases h with h | ⟨l, f, ⟨k, cap, C, ty, g1, g2, g3, g4, g5, g6⟩, hb, h2, h3⟩
  ·exact .inl h
  ·exact .inr ⟨l, f, ⟨k, cap, C, ty, ⟨g1, lt_of_block g5⟩, g2, g3, g4, g5, g6⟩, hb, fun i hi => Rep.lt e _ _ (h2 i hi), h3⟩
 | .struct lay tg sz, c, t, h => by
  simp only [Rep] at h ⊢
  obtain ⟨vs, u, h1, h2, h3⟩ := h
  refine ⟨vs, u, RepL.lt lay _ _ h1, ?_, h3⟩
  cases tg with
  | none => exact h2
  | some o => exact TagsR.lt' h2
 | .pstruct lay tg sz, c, t, h => by
  simp only [Rep] at h ⊢
  rcases h with h | ⟨k, C, ty, vs, u, h1, h2, h3, h4, h5, h6, h7⟩
  ·exact .inl h
  ·refine .inr ⟨k, C, ty, vs, u, ⟨h1, lt_of_block h3⟩, h2, h3, h4, RepL.lt lay _ _ h5, ?_, h7⟩
   cases tg with
   | none => exact h6
   | some o => exact TagsR.lt' h6
theorem RepL.lt : ∀ (lay : Lay) (c : Nat -> Value) (vs : List Tr), RepL w F lay c vs -> RepL w (fun k => F k /\ k < w.heap.size) lay c vs
 | .nil, c, vs, h => h
 | .cons o t r, c, vs, h => by
  simp only [RepL] at h ⊢
  obtain ⟨v, vs', h1, h2, h3⟩ := h
  exact ⟨v, vs', h1, Rep.lt t _ _ h2, RepL.lt r _ _ h3⟩
end
end
theorem Cur.lt {σ : St} {F : Nat -> Prop} {blk off : Nat} {v : SV} {w : World} (h : Cur σ F blk off v w) : Cur σ (fun k => F k /\ k < w.heap.size) blk off v w := by
 obtain ⟨C, t, h1, h2, h3, h4⟩ := h.mem
 refine ⟨C, t, h1, h2, RepL.lt _ _ _ h3, ?_⟩
 cases hg : σ.tg with
 | none => rw [hg] at h4; exact h4
 | some o => rw [hg] at h4; exact TagsR.lt' h4
end Go.Proofs.YtmehfgiadapekaaGreat
set_option linter.unusedSimpArgs false
set_option linter.unusedVariables false
namespace Go.Proofs.YtmehfgiadapekaaGreat
open Go Go.RowKit
/-- a row of so many cells each, some of whose elements have been read -/
structure Row (w : World) (F : Nat -> Prop) (k cap sz : Nat) (ety : Ty) (z : Nat -> Value) (n : Nat) (ts : List Tr) : Prop where
 len : ts.length <= n
 room : n <= cap
 mem : ∃ C t, w.heap[k]? = some (.cells C t (0, 0)) /\ C.size = cap * sz /\ (∀ i (h : i < ts.length), Rep w F ety (from' C (i * sz)) ts[i]) /\ ∀ i, ts.length <= i -> i < n -> ∀ j, j < sz -> C[i * sz + j]? = some (z j)
theorem Row.mod {w w' : World} {F S : Nat -> Prop} {k cap sz n : Nat} {ety : Ty} {z : Nat -> Value} {ts : List Tr} (h : Row w F k cap sz ety z n ts) (hm : Mod S w w') (hk : ¬ S k) (hs : ∀ b, F b -> ¬ S b) : Row w' F k cap sz ety z n ts := by
 obtain ⟨C, t, h1, h2, h3, h4⟩ := h.mem
 exact ⟨h.len, h.room, C, t, hm.some h1 hk, h2, fun i hi => Rep.mod hm hs (fun _ h => h) _ _ _ (h3 i hi), h4⟩
theorem Row.step {w w' : World} {F S : Nat -> Prop} {k cap sz n : Nat} {ety : Ty} {z : Nat -> Value} {ts : List Tr} {t : Tr} (h : Row w F k cap sz ety z n ts) (hlt : ts.length < n) (hok : ety.ok = true) (hsz : ety.size = sz) (hm : Mod S w w') (hS : ∀ b, F b -> ¬ S b)
  (hout : ∀ C tc, w.heap[k]? = some (.cells C tc (0, 0)) -> ∃ C', w'.heap[k]? = some (.cells C' tc (0, 0)) /\ C'.size = C.size /\ (∀ j, j < ts.length * sz \/ ts.length * sz + sz <= j -> C'[j]? = C[j]?) /\ Rep w' F ety (from' C' (ts.length * sz)) t) :
  Row w' F k cap sz ety z n (ts ++ [t]) := by
 obtain ⟨C, tc, h1, h2, h3, h4⟩ := h.mem
 obtain ⟨C', g1, g2, g3, g4⟩ := hout C tc h1
 refine ⟨by simp; omega, h.room, C', tc, g1, g2.trans h2, fun i hi => ?_, fun i hi1 hi2 j hj => ?_⟩
 ·by_cases hil : i < ts.length
  ·rw [List.getElem_append_left hil]
   refine Rep.congr ety _ _ _ hok (fun j hj => ?_) (Rep.mod hm hS (fun _ h => h) _ _ _ (h3 i hil))
   rw [hsz] at hj
   have := Nat.mul_le_mul_right sz (show i + 1 <= ts.length by omega)
   rw [Nat.add_mul] at this
   simp only [from', Array.getD_eq_getD_getElem?]
   rw [g3 _ (.inl (by omega))]
  ·have : i = ts.length := by simp at hi; omega
   subst this
   simpa using g4
 ·simp at hi1
  have := Nat.mul_le_mul_right sz (show ts.length + 1 <= i by omega)
  rw [Nat.add_mul] at this
  rw [g3 _ (.inr (by omega))]
  exact h4 i (by omega) hi2 j hj
end Go.Proofs.YtmehfgiadapekaaGreat
set_option linter.unusedSimpArgs false
set_option linter.unusedVariables false
set_option linter.unusedSimpArgs false
set_option linter.unusedVariables false
namespace Go.Proofs.YtmehfgiadapekaaGreat
open Go Go.RowKit
/-- a slice without elements: nil, or not -/
def EmptyV (e0 : Bool) (val : Value) (w : World) (F : Nat -> Prop) : Prop :=
 (e0 = false /\ val = .slice none 0 0) \/ (e0 = true /\ ∃ k t, F k /\ val = .slice (some ⟨k, 0, none⟩) 0 0 /\ w.heap[k]? = some (.cells #[] t (0, 0)))
theorem EmptyV.shape {e0 : Bool} {val : Value} {w : World} {F : Nat -> Prop} (h : EmptyV e0 val w F) : ∃ ao, val = .slice ao 0 0 := by
 rcases h with ⟨_, h⟩ | ⟨_, k, t, _, h, _⟩ <;> exact ⟨_, h⟩
theorem EmptyV.mod {e0 : Bool} {val : Value} {w w' : World} {F S : Nat -> Prop} (h : EmptyV e0 val w F) (hm : Mod S w w') (hs : ∀ k, F k -> ¬ S k) : EmptyV e0 val w' F := by
 rcases h with h | ⟨h1, k, t, h2, h3, h4⟩
 ·exact .inl h
 ·exact .inr ⟨h1, k, t, h2, h3, hm.some h4 (hs k h2)⟩
end Go.Proofs.YtmehfgiadapekaaGreat
