/-
  The writer of package spec: what a field of a number says; a field; a part.
-/
import Derived.Test.YtcldbjehliladaaDoorPWv
set_option linter.unusedSimpArgs false
set_option linter.unusedVariables false
namespace Go.Proofs.YtcldbjehliladaaDoor
open Go Go.RowKit
theorem TreeI.L {w : World} {c : Nat -> Value} {t : Tr} (h : TreeI w c t) : ∃ f, ElemsI w (c 3) t.L.length 5 f /\ ∀ i (h : i < t.L.length), TreeI w (f i) t.L[i] := by
 cases h with
 | mk h0 hn h1 h2 h3 h3' h4 h4' => exact ⟨_, h3, h3'⟩
theorem fromE {cs : Array Value} {c : Nat -> Value} (h : ∀ j, j < 5 -> cs[j]? = some (c j)) : ∀ j, j < 5 -> from' cs 0 j = c j := fun j hj => get_from' (by rw [Nat.zero_add]; exact h j hj)
set_option maxRecDepth 100000 in
theorem at_c {w0 w : World} {cs : Array Value} {t : Tr} {i : Nat} (hm0 : Mod none' w0 w) (hcs : cs.size = 5) (ht : TreeI w0 (from' cs 0) t) : Calls Tryd.prog 63 #[.agg cs, .int .i64 i] w fun e w' =>
  Mod none' w w' /\ ∃ cs', e = .returned (.agg cs') /\ cs'.size = 5 /\ TreeI w0 (from' cs' 0) (t.L.getD i .zero) := by
 obtain ⟨f, hE, hL⟩ := ht.L
 obtain ⟨ao, cap, hv⟩ := hE.slice
 have hz : zeroOf Tryd.prog 37 = some (.agg #[.int .i64 0, .slice none 0 0, .bool false, .slice none 0 0, .slice none 0 0]) := by kernel_rfl
 refine calls_of_wp Tryd.func63 rfl ?_
 rw [Tryd.ntmps63]
 refine wp_act (fun a : Act => Act.get a 0 = .agg cs /\ Act.get a 1 = .int .i64 i /\ a.tmps.size = 16 /\ a.defers = []) ⟨by rw [Zj _ _ _ (by simp)]; rfl, by rw [Zj _ _ _ (by simp)]; rfl, by simp, rfl⟩ ?_
 rintro a ⟨a0, a1, aN, ad⟩
 refine wp_seq (wp_region_lit (Zv rfl x_box (Zv rfl (x_alloc hz) (wpList_nil ?_))))
 rw [show a.eval (.tmp 0) = .agg cs from a0]
 obtain ⟨b1, hb1⟩ : ∃ b, b = w.heap.size := ⟨_, rfl⟩
 have r1 := Zh w (.cells (Value.agg cs).cells 37)
 have m1 : Mod none' w (w.alloc (.cells (Value.agg cs).cells 37)) := (Mod.refl w).alloc _
 have s1 : (w.alloc (.cells (Value.agg cs).cells 37)).heap.size = w.heap.size + 1 := by simp
 generalize w.alloc (.cells (Value.agg cs).cells 37) = w1 at *
 rw [<- hb1] at r1 s1 ⊢
 replace r1 : w1.heap[b1]? = some (.cells cs 37 (0, 0)) := r1
 obtain ⟨b2, hb2⟩ : ∃ b, b = w1.heap.size := ⟨_, rfl⟩
 have r2 := Zh w1 (.cells (Value.agg #[.int .i64 0, .slice none 0 0, .bool false, .slice none 0 0, .slice none 0 0]).cells 37)
 have m2 : Mod none' w1 (w1.alloc (.cells (Value.agg #[.int .i64 0, .slice none 0 0, .bool false, .slice none 0 0, .slice none 0 0]).cells 37)) := (Mod.refl w1).alloc _
 have s2 : (w1.alloc (.cells (Value.agg #[.int .i64 0, .slice none 0 0, .bool false, .slice none 0 0, .slice none 0 0]).cells 37)).heap.size = w1.heap.size + 1 := by simp
 generalize w1.alloc (.cells (Value.agg #[.int .i64 0, .slice none 0 0, .bool false, .slice none 0 0, .slice none 0 0]).cells 37) = w2 at *
 rw [<- hb2] at r2 s2 ⊢
 replace r2 : w2.heap[b2]? = some (.cells #[.int .i64 0, .slice none 0 0, .bool false, .slice none 0 0, .slice none 0 0] 37 (0, 0)) := r2
 replace r1 := m2.some r1 (fun f => f)
 have m12 : Mod none' w w2 := m1.trans m2
 have c3 : cs[3]? = some (.slice ao t.L.length cap) := by
  rw [<- hv]; simp [from', hcs]
 refine wp_act (fun a : Act => Act.get a 1 = .int .i64 i /\ Act.get a 2 = .pointer (some ⟨b1, 0, none⟩) /\ Act.get a 4 = .pointer (some ⟨b2, 0, none⟩) /\ a.tmps.size = 16 /\ a.defers = []) ⟨?_, ?_, ?_, ?_, ?_⟩ ?_
 ·simp (disch := first | omega | simp only [Zs]; omega) only [Zo, Ze, Zn, Zq, a1]
 ·simp (disch := first | omega | simp only [Zs]; omega) only [Zo, Ze, Zn, Zq]
 ·simp (disch := first | omega | simp only [Zs]; omega) only [Zo, Ze, Zn, Zq]
 ·simp only [Zs]; exact aN
 ·simp only [Zd]; exact ad
 clear a0 a1 aN ad a
 rintro a ⟨a1, a2, a4, aN, ad⟩
 refine wp_seq (wp_seq (wp_region_lit (Zv rfl Zm (Zv rfl (Za (o := 3) (by kernel_rfl) (b := b1) (o0 := 0) ?_) (Zv rfl (Zl (by kernel_rfl) (b := b1) (o := 0 + 3) (v := .slice ao t.L.length cap) ?_ ?_) (Zv rfl (x_len (by kernel_rfl) rfl (ao := ao) (cap := cap) (n := t.L.length) ?_) (Zv rfl (x_lss (k := .i64) (m := (i : Nat)) (n := (t.L.length : Nat)) ?_ ?_) (wpList_nil ?_))))))))
 ·simp (disch := first | omega | simp only [Zs]; omega) only [Zo, Ze, Zn, Zq, a2]
 ·simp (disch := first | omega | simp only [Zs]; omega) only [Zo, Ze, Zn, Zq]
 ·rw [Zc r1]; exact c3
 ·simp (disch := first | omega | simp only [Zs]; omega) only [Zo, Ze, Zn, Zq]
 ·simp (disch := first | omega | simp only [Zs]; omega) only [Zo, Ze, Zn, Zq, a1]
 ·simp (disch := first | omega | simp only [Zs]; omega) only [Zo, Ze, Zn, Zq]
 -- the answer's place is set to these cells
 have fin : ∀ (a : Act) (d : Nat) (y : TypeId) (p : String) (e : Array Edge) (cs' : Array Value) (ops : Array Oper) (Q : Exit -> Act -> World -> Prop), Act.get a 4 = .pointer (some ⟨b2, 0, none⟩) -> Act.get a d = .agg cs' -> a.defers = [] -> cs'.size = 5 -> TreeI w0 (from' cs' 0) (t.L.getD i .zero) ->
   (∀ a' w', bodyPost Tryd.prog Tryd.f63 (fun e w' => Mod none' w w' /\ ∃ cs', e = .returned (.agg cs') /\ cs'.size = 5 /\ TreeI w0 (from' cs' 0) (t.L.getD i .zero)) .ret a' w' -> Q .normal a' w') ->
   wpList Tryd.prog ops Q [⟨none, .store 37 (.tmp 4) (.tmp d), y, p, e, none⟩] a w2 := by
  intro a d y p e cs' ops Q g4 gd gdf hs5 htr hQ
  have hall : cs'.all (·.oneCell') = true := by
   rw [Array.all_eq_true]
   intro q hq
   have := htr.one q (by omega)
   simpa [from', hq] using this
  refine wpl_skip rfl (x_storeN (cs := cs') (b := b2) (o := 0) (by rw [hs5]; kernel_rfl) (by rw [Ze]; exact g4) (by rw [Ze]; exact gd) hall ?_) (wpList_nil (hQ _ _ ?_))
  ·intro q hq
   rw [Zc r2, Zz r2, Nat.zero_add, Array.getElem?_eq_getElem (by simp; omega)]
   exact ⟨rfl, rfl⟩
  have hm3 := mod_setCells b2 w2 0 cs'.toList
  have k1 := put_tree (cs := cs') r2 (by simp [hs5])
  have mall : Mod none' w (w2.setCells b2 0 cs'.toList) := m12.trans' hm3 (fun _ _ f => f) (fun q hq e => by have e' : q = b2 := e; omega)
  refine bodyPost_ret (results_cellN rfl (cs := cs'.toList) (b := b2) (o := 0) ?_ (by rw [Array.length_toList, hs5]; kernel_rfl) (fun q v hv => by rw [Zc k1, Nat.zero_add]; simpa using hv)) ((Zd _ _ _).trans gdf) ⟨mall, cs', by simp, hs5, ?_⟩
  ·show Act.get _ 4 = _
   rw [Zo]; exact g4
  ·exact htr
 by_cases hi : i < t.L.length
 ·refine wp_cond_true ?_ ?_
  ·simp (disch := first | omega | simp only [Zs]; omega) only [Zo, Ze, Zn, Zq]
   simpa using hi
  rcases hE with ⟨h0, _⟩ | ⟨k, off, cap', C, T, fr, q1, q2, q3, q4, q5⟩
  ·omega
  rw [hv] at q1
  obtain ⟨rfl, rfl⟩ : ao = some ⟨k, off, none⟩ /\ cap = cap' := by simpa using q1
  obtain ⟨cs', hcs', hf'⟩ : ∃ cs' : Array Value, cs'.size = 5 /\ ∀ j, j < 5 -> cs'[j]? = some (f i j) := ⟨#[f i 0, f i 1, f i 2, f i 3, f i 4], rfl, fun j hj => by
   rcases (by omega : j = 0 \/ j = 1 \/ j = 2 \/ j = 3 \/ j = 4) with rfl | rfl | rfl | rfl | rfl <;> rfl⟩
  have q4' := (hm0.trans m12).some q4 (fun f => f)
  refine wp_seq (wp_region_lit (Zv rfl (Za (o := 3) (by kernel_rfl) (b := b1) (o0 := 0) ?_) (Zv rfl (Zl (by kernel_rfl) (b := b1) (o := 0 + 3) (v := .slice (some ⟨k, off, none⟩) t.L.length cap) ?_ ?_) (Zv rfl Zm (Zv rfl (Zx (sz := 5) (i := i) (b := k) (o := off) (n := t.L.length) (cap := cap) (k := .i64) (by kernel_rfl) ?_ ?_ hi) (Zv rfl (x_loadN (cs := cs'.toList) (b := k) (o := off + i * 5) (by rw [Array.length_toList, hcs']; kernel_rfl) ?_ (fun j v hj => ?_)) ?_))))))
  ·simp (disch := first | omega | simp only [Zs]; omega) only [Zo, Ze, Zn, Zq, a2]
  ·simp (disch := first | omega | simp only [Zs]; omega) only [Zo, Ze, Zn, Zq]
  ·rw [Zc r1]; exact c3
  ·simp (disch := first | omega | simp only [Zs]; omega) only [Zo, Ze, Zn, Zq]
  ·simp (disch := first | omega | simp only [Zs]; omega) only [Zo, Ze, Zn, Zq, a1]
  ·simp (disch := first | omega | simp only [Zs]; omega) only [Zo, Ze, Zn, Zq]
  ·rw [Zc q4']
   have hj5 : j < 5 := by
    have := (List.getElem?_eq_some_iff.1 hj).1
    simp at this; omega
   rw [q5 i hi j hj5, <- hj, Array.getElem?_toList, hf' j hj5]
  refine wpl_abs (fun a' => Act.get a' 4 = .pointer (some ⟨b2, 0, none⟩) /\ Act.get a' 14 = .agg cs' /\ a'.defers = []) ⟨?_, ?_, ?_⟩ ?_
  ·simp (disch := first | omega | simp only [Zs]; omega) only [Zo, Ze, Zn, Zq, a4]
  ·simp (disch := first | omega | simp only [Zs]; omega) only [Zo, Ze, Zn, Zq]
  ·simp only [Zd]; exact ad
  rintro a' ⟨g4, g14, gd⟩
  refine fin a' 14 _ _ _ cs' _ _ g4 g14 gd hcs' ?_ (fun _ _ h => wp_ret (by first | exact h | (simp only [Exit.then]; exact h)))
  rw [show t.L.getD i .zero = t.L[i] by simp [List.getD, hi]]
  exact (hL i hi).congr (fromE hf')
 ·refine wp_cond_false ?_ (wp_skip ?_)
  ·simp (disch := first | omega | simp only [Zs]; omega) only [Zo, Ze, Zn, Zq]
   simpa using hi
  refine wp_seq (wp_region_lit (Zv rfl (x_build (cells := #[.int .i64 0, .slice none 0 0, .bool false, .slice none 0 0, .slice none 0 0]) (by kernel_rfl)) ?_))
  refine wpl_abs (fun a' => Act.get a' 4 = .pointer (some ⟨b2, 0, none⟩) /\ Act.get a' 15 = .agg #[.int .i64 0, .slice none 0 0, .bool false, .slice none 0 0, .slice none 0 0] /\ a'.defers = []) ⟨?_, ?_, ?_⟩ ?_
  ·simp (disch := first | omega | simp only [Zs]; omega) only [Zo, Ze, Zn, Zq, a4]
  ·simp (disch := first | omega | simp only [Zs]; omega) only [Zo, Ze, Zn, Zq]
  ·simp only [Zd]; exact ad
  rintro a' ⟨g4, g15, gd⟩
  refine fin a' 15 _ _ _ _ _ _ g4 g15 gd rfl ?_ (fun _ _ h => wp_ret (by first | exact h | (simp only [Exit.then]; exact h)))
  rw [show t.L.getD i .zero = .zero by simp [List.getD, hi]]
  exact TreeI.zero w0
theorem two_boxes {w w1 : World} {A B : Array Value} {T1 T2 : TypeId} (hm : Mod none' ((w.alloc (.cells A T1)).alloc (.cells B T2)) w1) : w1.heap[w.heap.size]? = some (.cells A T1 (0, 0)) /\ w1.heap[w.heap.size + 1]? = some (.cells B T2 (0, 0)) := by
 refine ⟨hm.some (((Mod.refl (S := none') (w.alloc (.cells A T1))).alloc _).some (Zh w _) (fun f => f)) (fun f => f), hm.some ?_ (fun f => f)⟩
 have := Zh (w.alloc (.cells A T1)) (.cells B T2)
 simpa using this
/-- a field's cells -/
def FD.cells (f : FD) (sv : Value) : Array Value := #[.int .i64 f.kind, .int .i64 f.from_, .int .i64 f.to, .int .i64 f.null, .int .i64 f.tag, .int .i64 f.dflt, .int .i64 f.of, sv]
theorem nullW_iff {null ver : Int} {t : Tr} {b : Bool} (h : b = true ↔ t.Z = true /\ 0 <= null /\ null <= ver) : b = nullW null ver t := by
 unfold nullW
 cases hz : t.Z
 ·rw [hz] at h
  cases b
  ·rfl
  ·have := h.1 rfl; simp at this
 ·rw [hz] at h
  by_cases h1 : 0 <= null
  ·by_cases h2 : null <= ver
   ·rw [h.2 ⟨rfl, h1, h2⟩]; simp [h1, h2]
   ·cases b
    ·simp [h2]
    ·exact absurd (h.1 rfl).2.2 h2
  ·cases b
   ·simp [h1]
   ·exact absurd (h.1 rfl).2.1 h1
set_option maxRecDepth 100000 in
set_option maxHeartbeats 4000000 in
theorem field_c {w : World} {k fr to nl g d o ver : Int} {sv : Value} {flex : Bool} {cs : Array Value} {t : Tr} (hcs : cs.size = 5) (ht : TreeI w (from' cs 0) t) (hk : leafK k = true) :
  BytesC Tryd.prog 62 #[.agg #[.int .i64 k, .int .i64 fr, .int .i64 to, .int .i64 nl, .int .i64 g, .int .i64 d, .int .i64 o, sv], .int .i64 ver, .bool flex, .agg cs] w (leafW k (nullW nl ver t) flex t) := by
 have hk0 := hk
 have e5 := arr5 hcs
 generalize from' cs 0 = c at *
 obtain ⟨n, z, h0, h2, hz⟩ : ∃ n z, c 0 = .int .i64 n /\ c 2 = .bool z /\ t.Z = z := by
  cases ht with
  | mk h0 hn h1 h2 h3 h3' h4 h4' => exact ⟨_, _, h0, h2, rfl⟩
 rw [h0, h2] at e5
 have hv : ∀ W b, Mod none' w W -> BytesC Tryd.prog 102 #[.int .i64 k, sv, .bool b, .int .i64 ver, .bool flex, .agg cs] W (leafW k b flex t) := fun W b hm => value_c hcs ((ht.congr (fun j hj => by rw [e5]; rcases (by omega : j = 0 \/ j = 1 \/ j = 2 \/ j = 3 \/ j = 4) with rfl | rfl | rfl | rfl | rfl <;> simp [from', h0, h2])).mod hm) hk0
 subst e5
 simp only [leafK, Bool.or_eq_true, beq_iff_eq] at hk
 rcases hk with ((((((((rfl | rfl) | rfl) | rfl) | rfl) | rfl) | rfl) | rfl) | rfl) | rfl
 all_goals
  go_enter Tryd.func62, Tryd.ntmps62
  go_wp2_with (first | (go_at_call 99; refine null_c.mono ?_; rintro e w1 ⟨b, rfl, hb, hm1⟩; obtain ⟨hA, hB⟩ := two_boxes hm1; have qa0 : w1.cell? ⟨w.heap.size, 0, none⟩ = some (.int .i64 _) := (Zc hA).trans rfl; have qa3 : w1.cell? ⟨w.heap.size, 3, none⟩ = some (.int .i64 nl) := (Zc hA).trans rfl; have qa7 : w1.cell? ⟨w.heap.size, 7, none⟩ = some sv := (Zc hA).trans rfl; have qb0 : w1.cell? ⟨w.heap.size + 1, 0, none⟩ = some (.int .i64 n) := (Zc hB).trans rfl; have qb1 : w1.cell? ⟨w.heap.size + 1, 1, none⟩ = some (c 1) := (Zc hB).trans rfl; have qb2 : w1.cell? ⟨w.heap.size + 1, 2, none⟩ = some (.bool z) := (Zc hB).trans rfl; have qb3 : w1.cell? ⟨w.heap.size + 1, 3, none⟩ = some (c 3) := (Zc hB).trans rfl; have qb4 : w1.cell? ⟨w.heap.size + 1, 4, none⟩ = some (c 4) := (Zc hB).trans rfl; clear hA hB) | (go_at_call 102; refine (hv w1 b (((Mod.refl w).alloc _).alloc _ |>.trans hm1)).mono ?_; rintro e w2 ⟨v2, rfl, hm2, ho2⟩))
  go_ret
  refine ⟨v2, rfl, ((((Mod.refl w).alloc _).alloc _).trans hm1).trans hm2, ?_⟩
  rw [<- nullW_iff (t := t) (by rw [hz]; exact hb)]
  exact ho2.low (by have := hm1.size; simp at this; omega)
end Go.Proofs.YtcldbjehliladaaDoor
