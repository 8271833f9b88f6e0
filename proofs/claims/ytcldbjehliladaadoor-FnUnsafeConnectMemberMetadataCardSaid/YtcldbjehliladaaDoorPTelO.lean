/-
  Telling a list: whether it is null; the loop. No program in it.
-/
import Derived.Test.YtcldbjehliladaaDoorPTelL
import Derived.Test.YtcldbjehliladaaDoorPRp
set_option linter.unusedSimpArgs false
set_option linter.unusedVariables false
namespace Go.Proofs.YtcldbjehliladaaDoor
open Go Go.RowKit
theorem LMem.start {x : TX} {w0 w : World} {ts : List Tr} {uv : Value} {TI : Nat} {nl : Bool} (h : TMem x w0 w ts uv) (hj : ts.length < x.n) : LMem x w0 (w.setCell ⟨x.lb, 0 + ts.length * 5 + 2, none⟩ (.bool nl)) ts uv w.heap.size TI nl (.slice none 0 0) [] [] := by
 obtain ⟨D, T, h1, h2, h3, h4, h5⟩ := h.hl
 obtain ⟨T', hb⟩ := h.hb
 obtain ⟨z, Tz, hr, hz⟩ := h.hr
 have hnew := h.new
 have hm3 : Mod (only x.lb) w (w.setCell ⟨x.lb, 0 + ts.length * 5 + 2, none⟩ (.bool nl)) := (Mod.refl w).put _ _
 have hrow : ts.length * 5 + 5 <= D.size := by rw [h2]; have := Nat.mul_le_mul_right 5 (show ts.length + 1 <= x.n by omega); omega
 have get : ∀ p, (D.setIfInBounds (0 + ts.length * 5 + 2) (.bool nl))[p]? = if p = ts.length * 5 + 2 then some (.bool nl) else D[p]? := fun p => by
  rw [Array.getElem?_setIfInBounds]
  by_cases hp : p = ts.length * 5 + 2
  ·rw [if_pos (by omega), if_pos hp, if_pos (by omega)]
  ·rw [if_neg (by omega), if_neg hp]
 refine ⟨h.mod.trans' hm3 (fun _ _ f => f) (fun j hj e => by have : j = x.lb := e; omega), h.new, h.ne, ⟨lt_of_block hb, lt_of_block h1, lt_of_block hr, hm3.size⟩, ⟨T', hm3.some hb (fun e => h.ne.1 e)⟩,
  ⟨_, T, heap_setCell_same h1 _, by simpa using h2, hj, fun i hi => ?_, fun q hq => ?_, fun i hi1 hi2 q hq => ?_⟩, ⟨z, Tz, hm3.some hr (fun e => h.ne.2.2 e), hz⟩, World.ownsRow_nil _ _ _ _, fun i hi => by simp at hi, by simp⟩
 ·refine ((h4 i hi).lt.congr fun q hq => ?_).mod hm3 (fun k hk e => hk.1.2.2.1 e) (fun _ h => h)
  simp only [from', Array.getD_eq_getD_getElem?]
  rw [get, if_neg (by omega)]
 ·have h5q := h5 ts.length (Nat.le_refl _) hj q hq
  simp only [from', Array.getD_eq_getD_getElem?] at h5q ⊢
  rw [get]
  by_cases hq3 : q = 2
  ·subst hq3; rw [if_pos rfl]; rfl
  ·rw [if_neg (by omega), h5q]
   rcases (by omega : q = 0 \/ q = 1 \/ q = 3 \/ q = 4) with rfl | rfl | rfl | rfl <;> rfl
 ·rw [<- h5 i (by omega) hi2 q hq]
  simp only [from', Array.getD_eq_getD_getElem?]
  rw [get, if_neg (by omega)]
theorem LMem.grow {x : TX} {w0 w w' : World} {ts : List Tr} {uv : Value} {B TI : Nat} {nl : Bool} {sv : Value} {xs : List Value} {pre : List Tr} (h : LMem x w0 w ts uv B TI nl sv xs pre) (hm : Mod none' w w') : LMem x w0 w' ts uv B TI nl sv xs pre := by
 obtain ⟨D, T, h1, h2, h3, h4, h5, h6⟩ := h.hl
 obtain ⟨T', hb⟩ := h.hb
 obtain ⟨z, Tz, hr, hz⟩ := h.hr
 have hlt := h.lt
 have hs := hm.size
 exact ⟨h.mod.trans hm, h.new, h.ne, ⟨hlt.1, hlt.2.1, hlt.2.2.1, by omega⟩, ⟨T', hm.some hb (fun f => f)⟩, ⟨D, T, hm.some h1 (fun f => f), h2, h3, fun i hi => (h4 i hi).mod hm (fun _ _ f => f) (fun _ h => h), h5, h6⟩, ⟨z, Tz, hm.some hr (fun f => f), hz⟩, ownsRow_mod h.own hm (fun _ _ f => f),
  fun i hi => (h.els i hi).mod hm (fun _ _ f => f) (fun _ h => h), h.len⟩
end Go.Proofs.YtcldbjehliladaaDoor
