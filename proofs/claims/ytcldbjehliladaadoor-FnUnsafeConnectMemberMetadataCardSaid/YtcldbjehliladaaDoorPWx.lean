/-
  The writer of package spec: the fields one by one.
-/
import Derived.Test.YtcldbjehliladaaDoorPWw
set_option linter.unusedSimpArgs false
set_option linter.unusedVariables false
namespace Go.Proofs.YtcldbjehliladaaDoor
open Go Go.RowKit
/-- fields in memory, those of parts within them too -/
inductive FdsI (w : World) : Value -> List FD -> Prop where
 | mk {v : Value} {fs : List FD} {fc : Nat -> Nat -> Value} {sv : Nat -> Value} (hE : ElemsI w v fs.length 8 fc) (hc : ∀ i (h : i < fs.length) j, j < 8 -> ((fs[i]).cells (sv i))[j]? = some (fc i j))
   (hs : ∀ i (h : i < fs.length), FdsI w (sv i) (fs[i]).sub) : FdsI w v fs
theorem FdsI.mod {w w' : World} {v : Value} {fs : List FD} (h : FdsI w v fs) (hm : Mod none' w w') : FdsI w' v fs := by
 induction h with
 | mk hE hc hs ih => exact .mk (hE.mod hm) hc (fun i hi => ih i hi)
theorem FdsI.slice {w : World} {v : Value} {fs : List FD} (h : FdsI w v fs) : ∃ ao cap, v = .slice ao fs.length cap := by
 cases h with
 | mk hE hc hs => exact hE.slice
theorem FdsI.len {w : World} {v : Value} {fs : List FD} (h : FdsI w v fs) : fs.length <= 9223372036854775807 := by
 cases h with
 | mk h1 hc hs =>
  rcases h1 with ⟨h0, _⟩ | ⟨k, off, cap', C, T, fr, q1, q2, q3, q4, q5⟩
  ·omega
  ·have hml : maxLen = 9223372036854775807 := rfl
   omega
/-- a field's cells in memory -/
theorem FdsI.at' {w : World} {ao : Option Addr} {cap n : Nat} {fs : List FD} (h : FdsI w (.slice ao n cap) fs) {i : Nat} (hi : i < fs.length) : n = fs.length /\ ∃ k off sa sn sc, ao = some ⟨k, off, none⟩ /\ ∃ C T fr, w.heap[k]? = some (.cells C T fr) /\
  (∀ j v, ((fs[i]).cells (.slice sa sn sc)).toList[j]? = some v -> C[off + i * 8 + j]? = some v) /\ FdsI w (.slice sa sn sc) (fs[i]).sub := by
 generalize hv : Value.slice ao n cap = v0 at h
 cases h with
 | @mk _ _ fc sv h1 hc hs =>
  subst hv
  rcases h1 with ⟨h0, _⟩ | ⟨k, off, cap', C, T, fr, q1, q2, q3, q4, q5⟩
  ·omega
  ·obtain ⟨rfl, rfl, rfl⟩ : ao = some ⟨k, off, none⟩ /\ n = fs.length /\ cap = cap' := by simpa using q1
   obtain ⟨sa, sc, h3⟩ := (hs i hi).slice
   have hs' := hs i hi
   have h2 := hc i hi
   rw [h3] at hs' h2
   refine ⟨rfl, k, off, sa, _, sc, rfl, C, T, fr, q4, fun j v hv => ?_, hs'⟩
   have hj : j < 8 := by
    have := (List.getElem?_eq_some_iff.1 hv).1
    simp [FD.cells] at this; omega
   rw [q5 i hi j hj, <- h2 j hj]
   simpa using hv
theorem FdsI.at {w : World} {ao : Option Addr} {cap n : Nat} {fs : List FD} (h : FdsI w (.slice ao n cap) fs) {i : Nat} (hi : i < fs.length) : n = fs.length /\ ∃ k off sa sn sc, ao = some ⟨k, off, none⟩ /\ ∃ C T fr, w.heap[k]? = some (.cells C T fr) /\
  ∀ j v, ((fs[i]).cells (.slice sa sn sc)).toList[j]? = some v -> C[off + i * 8 + j]? = some v := by
 obtain ⟨h1, k, off, sa, sn, sc, h2, C, T, fr, h3, h4, _⟩ := h.at' hi
 exact ⟨h1, k, off, sa, sn, sc, h2, C, T, fr, h3, h4⟩
theorem zeroField : zeroOf Tryd.prog 56 = some (.agg #[.int .i64 0, .int .i64 0, .int .i64 0, .int .i64 0, .int .i64 0, .int .i64 0, .int .i64 0, .slice none 0 0]) := by kernel_rfl
set_option maxRecDepth 100000 in
theorem known_c {w : World} {v : Value} {fs : List FD} (hf : FdsI w v fs) (hno : ∀ f ∈ fs, f.tag < 0) : Calls Tryd.prog 64 #[v] w fun e w' => e = .returned (.int .u32 0) /\ Mod none' w w' := by
 obtain ⟨ao, cap, rfl⟩ := hf.slice
 refine calls_of_wp Tryd.func64 rfl ?_
 rw [Tryd.ntmps64]
 refine wp_act (fun a : Act => Act.get a 0 = .slice ao fs.length cap /\ a.tmps.size = 23 /\ a.defers = []) ⟨by rw [Zj _ _ _ (by simp)]; rfl, by simp, rfl⟩ ?_
 rintro a ⟨a0, aN, ad⟩
 refine wp_seq (wp_region_lit (Zv rfl Zi (wpList_nil (wp_seq (wp_region_lit (Zv rfl Zi (wpList_nil ?_)))))))
 refine wp_seq (wp_seq (wp_region_lit (Zv rfl Zm (Zv rfl (x_len (by kernel_rfl) rfl (ao := ao) (cap := cap) (n := fs.length) ?_) (Zv rfl Zm (wpList_nil ?_))))))
 ·simp (disch := first | omega | simp only [Zs]; omega) only [Zo, Ze, Zn, Zq, a0]
 refine wp_block ?_
 refine wp_loop_ghost (fun (m : Nat) (a : Act) (w' : World) => a.tmps.size = 23 /\ a.defers = [] /\ Act.get a 3 = .int .u32 0 /\ Act.get a 6 = .slice ao fs.length cap /\ Act.get a 7 = .int .i64 (fs.length : Nat) /\ m <= fs.length /\ Act.get a 8 = .int .i64 ((fs.length - m : Nat) : Int) /\ Mod none' w w') fs.length ⟨?_, ?_, ?_, ?_, ?_, Nat.le_refl _, ?_, .refl w⟩ ?_
 ·simp only [Zs]; exact aN
 ·simp only [Zd]; exact ad
 ·simp (disch := first | omega | simp only [Zs]; omega) only [Zo, Ze, Zn, Zq]
  rfl
 ·simp (disch := first | omega | simp only [Zs]; omega) only [Zo, Ze, Zn, Zq, a0]
 ·simp (disch := first | omega | simp only [Zs]; omega) only [Zo, Ze, Zn, Zq]
 ·simp (disch := first | omega | simp only [Zs]; omega) only [Zo, Ze, Zn, Zq]
  rw [Nat.sub_self]; rfl
 clear a0 aN ad a
 rintro m a w1 ⟨aN, ad, a3, a6, a7, hm, a8, hmod⟩
 refine wp_seq (wp_region_lit (Zv rfl (x_lss (k := .i64) (m := ((fs.length - m : Nat) : Int)) (n := (fs.length : Nat)) (by rw [Ze, a8]) (by rw [Ze, a7])) (wpList_nil ?_)))
 by_cases hpos : 0 < m
 ·refine wp_seq (wp_cond_true ?_ (wp_skip ?_))
  ·rw [Ze, Zq (by omega)]; simp; omega
  have hi : fs.length - m < fs.length := by omega
  obtain ⟨_, k, off, sa, sn, sc, rfl, C, T, fr, hC, hcells⟩ := (hf.mod hmod).at hi
  have hlen8 : ((fs[fs.length - m]).cells (.slice sa sn sc)).toList.length = 8 := rfl
  refine wp_seq (wp_block (wp_seq (wp_region_lit (Zv rfl (Zx (sz := 8) (i := fs.length - m) (b := k) (o := off) (n := fs.length) (cap := cap) (k := .i64) (by kernel_rfl) ?_ ?_ hi) (Zv rfl (x_loadN (cs := ((fs[fs.length - m]).cells (.slice sa sn sc)).toList) (b := k) (o := off + (fs.length - m) * 8) (by rw [hlen8]; kernel_rfl) ?_ (fun j v hv => by rw [Zc hC]; exact hcells j v hv)) (Zv rfl (x_alloc zeroField) ?_))))))
  ·simp (disch := first | omega | simp only [Zs]; omega) only [Zo, Ze, Zn, Zq, a6]
  ·simp (disch := first | omega | simp only [Zs]; omega) only [Zo, Ze, Zn, Zq, a8]
  ·simp (disch := first | omega | simp only [Zs]; omega) only [Zo, Ze, Zn, Zq]
  have k1 := Zh w1 (.cells (Value.agg #[.int .i64 0, .int .i64 0, .int .i64 0, .int .i64 0, .int .i64 0, .int .i64 0, .int .i64 0, .slice none 0 0]).cells 56)
  have m1 : Mod none' w1 (w1.alloc (.cells (Value.agg #[.int .i64 0, .int .i64 0, .int .i64 0, .int .i64 0, .int .i64 0, .int .i64 0, .int .i64 0, .slice none 0 0]).cells 56)) := (Mod.refl w1).alloc _
  have s1 : (w1.alloc (.cells (Value.agg #[.int .i64 0, .int .i64 0, .int .i64 0, .int .i64 0, .int .i64 0, .int .i64 0, .int .i64 0, .slice none 0 0]).cells 56)).heap.size = w1.heap.size + 1 := by simp
  generalize w1.alloc (.cells (Value.agg #[.int .i64 0, .int .i64 0, .int .i64 0, .int .i64 0, .int .i64 0, .int .i64 0, .int .i64 0, .slice none 0 0]).cells 56) = w2 at *
  obtain ⟨b5, hb5⟩ : ∃ b, b = w1.heap.size := ⟨_, rfl⟩
  rw [<- hb5] at k1 s1 ⊢
  refine wpl_skip rfl (x_storeN (cs := (fs[fs.length - m]).cells (.slice sa sn sc)) (b := b5) (o := 0) (by kernel_rfl) ?_ ?_ (by simp [FD.cells, Value.oneCell']) ?_) (wpList_nil ?_)
  ·simp (disch := first | omega | simp only [Zs]; omega) only [Zo, Ze, Zn, Zq]
  ·simp (disch := first | omega | simp only [Zs]; omega) only [Zo, Ze, Zn, Zq]
  ·intro j hj
   have hj8 : j < 8 := hj
   rw [Zc k1, Zz k1, Nat.zero_add]
   rcases (by omega : j = 0 \/ j = 1 \/ j = 2 \/ j = 3 \/ j = 4 \/ j = 5 \/ j = 6 \/ j = 7) with rfl | rfl | rfl | rfl | rfl | rfl | rfl | rfl <;> exact ⟨rfl, rfl⟩
  have k2 := put_tree (cs := (fs[fs.length - m]).cells (.slice sa sn sc)) k1 rfl
  have m2 := mod_setCells b5 w2 0 ((fs[fs.length - m]).cells (.slice sa sn sc)).toList
  have hmod3 : Mod none' w (w2.setCells b5 0 ((fs[fs.length - m]).cells (.slice sa sn sc)).toList) := (hmod.trans m1).trans' m2 (fun _ _ f => f) (fun i hi e => by have e' : i = b5 := e; have := hmod.size; omega)
  generalize w2.setCells b5 0 ((fs[fs.length - m]).cells (.slice sa sn sc)).toList = w3 at *
  have htag : (fs[fs.length - m]).tag < 0 := hno _ (List.getElem_mem hi)
  refine wp_seq (wp_region_lit (Zv rfl (Za (o := 4) (by kernel_rfl) (b := b5) (o0 := 0) ?_) (Zv rfl (Zl (by kernel_rfl) (b := b5) (o := 0 + 4) (v := .int .i64 (fs[fs.length - m]).tag) ?_ ?_) (Zv rfl (x_geq (k := .i64) (m := (fs[fs.length - m]).tag) (n := 0) ?_ rfl) (wpList_nil ?_)))))
  ·simp (disch := first | omega | simp only [Zs]; omega) only [Zo, Ze, Zn, Zq]
  ·simp (disch := first | omega | simp only [Zs]; omega) only [Zo, Ze, Zn, Zq]
  ·rw [Zc k2]; rfl
  ·simp (disch := first | omega | simp only [Zs]; omega) only [Zo, Ze, Zn, Zq]
  refine wp_cond_false ?_ (wp_skip ?_)
  ·simp (disch := first | omega | simp only [Zs]; omega) only [Zo, Ze, Zn, Zq]
   simp; omega
  simp only [Exit.then, Exit.inBlock]
  refine wp_region_lit (Zv rfl (x_add (k := .i64) (m := ((fs.length - m : Nat) : Int)) (n := 1) ?_ rfl) (Zv rfl Zm (wpList_nil ?_)))
  ·simp (disch := first | omega | simp only [Zs]; omega) only [Zo, Ze, Zn, Zq, a8]
  refine ⟨m - 1, by omega, ?_, ?_, ?_, ?_, ?_, by omega, ?_, hmod3⟩
  ·simp only [Zs]; exact aN
  ·simp only [Zd]; exact ad
  ·simp (disch := first | omega | simp only [Zs]; omega) only [Zo, Ze, Zn, Zq, a3]
  ·simp (disch := first | omega | simp only [Zs]; omega) only [Zo, Ze, Zn, Zq, a6]
  ·simp (disch := first | omega | simp only [Zs]; omega) only [Zo, Ze, Zn, Zq, a7]
  ·simp (disch := first | omega | simp only [Zs]; omega) only [Zo, Ze, Zn, Zq]
   have hl := hf.len
   congr 1
   rw [IntKind.wrap_i64]; omega
 ·refine wp_seq (wp_cond_false ?_ (wp_exit ?_))
  ·rw [Ze, Zq (by omega)]; simp; omega
  simp only [Exit.then, Exit.inBlock, if_true]
  refine wp_seq (wp_region_lit (Zv rfl Zm (Zv rfl Zi (wpList_nil ?_))))
  refine wp_act (c := .ret) (fun a : Act => Act.get a 2 = .int .u32 0 /\ a.defers = []) ⟨?_, ?_⟩ ?_
  ·simp (disch := first | omega | simp only [Zs]; omega) only [Zo, Ze, Zn, Zq, a3]
  ·simp only [Zd]; exact ad
  rintro a9 ⟨z0, zd⟩
  exact wp_ret (bodyPost_ret (results_tmp rfl _ _ _) zd ⟨congrArg Ending.returned z0, hmod⟩)
end Go.Proofs.YtcldbjehliladaaDoor
