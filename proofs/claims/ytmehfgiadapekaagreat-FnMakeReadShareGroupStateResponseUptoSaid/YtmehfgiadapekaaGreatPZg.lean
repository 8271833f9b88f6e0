/-
  The laws' tree of the program's; what the program's own tree says.
-/
import Derived.Test.YtmehfgiadapekaaGreatPWw
set_option linter.unusedSimpArgs false
set_option linter.unusedVariables false
namespace Go.Proofs.YtmehfgiadapekaaGreat
open Go Go.RowKit
abbrev fGiven : Nat := 11
theorem iat_c {w0 w : World} {cs : Array Value} {t : Tr} {i : Nat} (hm0 : Mod none' w0 w) (hcs : cs.size = 5) (ht : TreeI w0 (from' cs 0) t) : Calls Tryz.prog 39 #[.agg cs, .int .i64 i] w fun e w' =>
  Mod none' w w' /\ ∃ cs', e = .returned (.agg cs') /\ cs'.size = 5 /\ TreeI w0 (from' cs' 0) (t.L.getD i .zero) := by
 obtain ⟨f, hE, hL⟩ := ht.L
 obtain ⟨ao, cap, hv⟩ := hE.slice
 have hz : zeroOf Tryz.prog 39 = some (.agg #[.int .i64 0, .slice none 0 0, .bool false, .slice none 0 0, .slice none 0 0]) := by kernel_rfl
 refine calls_of_wp Tryz.func39 rfl ?_
 rw [Tryz.ntmps39]
 refine wp_act (fun a : Act => Act.get a 0 = .agg cs /\ Act.get a 1 = .int .i64 i /\ a.tmps.size = 16 /\ a.defers = []) ⟨by rw [Zj _ _ _ (by simp)]; rfl, by rw [Zj _ _ _ (by simp)]; rfl, by simp, rfl⟩ ?_
 rintro a ⟨a0, a1, aN, ad⟩
 refine wp_seq (wp_region_lit (Zv rfl x_box (Zv rfl (x_alloc hz) (wpList_nil ?_))))
 rw [show a.eval (.tmp 0) = .agg cs from a0]
 obtain ⟨b1, hb1⟩ : ∃ b, b = w.heap.size := ⟨_, rfl⟩
 have r1 := Zh w (.cells (Value.agg cs).cells 39)
 have m1 : Mod none' w (w.alloc (.cells (Value.agg cs).cells 39)) := (Mod.refl w).alloc _
 have s1 : (w.alloc (.cells (Value.agg cs).cells 39)).heap.size = w.heap.size + 1 := by simp
 generalize w.alloc (.cells (Value.agg cs).cells 39) = w1 at *
 rw [<- hb1] at r1 s1 ⊢
 replace r1 : w1.heap[b1]? = some (.cells cs 39 (0, 0)) := r1
 obtain ⟨b2, hb2⟩ : ∃ b, b = w1.heap.size := ⟨_, rfl⟩
 have r2 := Zh w1 (.cells (Value.agg #[.int .i64 0, .slice none 0 0, .bool false, .slice none 0 0, .slice none 0 0]).cells 39)
 have m2 : Mod none' w1 (w1.alloc (.cells (Value.agg #[.int .i64 0, .slice none 0 0, .bool false, .slice none 0 0, .slice none 0 0]).cells 39)) := (Mod.refl w1).alloc _
 have s2 : (w1.alloc (.cells (Value.agg #[.int .i64 0, .slice none 0 0, .bool false, .slice none 0 0, .slice none 0 0]).cells 39)).heap.size = w1.heap.size + 1 := by simp
 generalize w1.alloc (.cells (Value.agg #[.int .i64 0, .slice none 0 0, .bool false, .slice none 0 0, .slice none 0 0]).cells 39) = w2 at *
 rw [<- hb2] at r2 s2 ⊢
 replace r2 : w2.heap[b2]? = some (.cells #[.int .i64 0, .slice none 0 0, .bool false, .slice none 0 0, .slice none 0 0] 39 (0, 0)) := r2
 replace r1 := m2.some r1 (fun f => f)
 have m12 : Mod none' w w2 := m1.trans m2
 have c3 : cs[3]? = some (.slice ao t.L.length cap) := by
  rw [<- hv]; simp [from', hcs]
 refine wp_act (fun a : Act => Act.get a 1 = .int .i64 i /\ Act.get a 2 = .pointer (some ⟨b1, 0, none⟩) /\ Act.get a 4 = .pointer (some ⟨b2, 0, none⟩) /\ a.tmps.size = 16 /\ a.defers = []) ⟨?_, ?_, ?_, ?_, ?_⟩ ?_
 ·simp (disch := first | omega | simp only [Zs]; omega) only [Zo, Ze, Zn, Zq, a1]
 ·simp (disch := first | omega | simp only [Zs]; omega) only [Zo, Ze, Zn, Zq]
 ·simp (disch := first | omega | simp only [Zs]; omega) only [Zo, Ze, Zn, Zq]
 ·simp only [Zs]; exact aN
 ·simp only [Zd]; exact ad
 clear a0 a1 aN ad a
 rintro a ⟨a1, a2, a4, aN, ad⟩
 refine wp_seq (wp_seq (wp_region_lit (Zv rfl Zm (Zv rfl (Za (o := 3) (by kernel_rfl) (b := b1) (o0 := 0) ?_) (Zv rfl (Zl (by kernel_rfl) (b := b1) (o := 0 + 3) (v := .slice ao t.L.length cap) ?_ ?_) (Zv rfl (x_len (by kernel_rfl) rfl (ao := ao) (cap := cap) (n := t.L.length) ?_) (Zv rfl (x_lss (k := .i64) (m := (i : Nat)) (n := (t.L.length : Nat)) ?_ ?_) (wpList_nil ?_))))))))
 ·simp (disch := first | omega | simp only [Zs]; omega) only [Zo, Ze, Zn, Zq, a2]
 ·simp (disch := first | omega | simp only [Zs]; omega) only [Zo, Ze, Zn, Zq]
 ·rw [Zc r1]; exact c3
 ·simp (disch := first | omega | simp only [Zs]; omega) only [Zo, Ze, Zn, Zq]
 ·simp (disch := first | omega | simp only [Zs]; omega) only [Zo, Ze, Zn, Zq, a1]
 ·simp (disch := first | omega | simp only [Zs]; omega) only [Zo, Ze, Zn, Zq]
 -- the answer's place is set to these cells
 have fin : ∀ (a : Act) (d : Nat) (y : TypeId) (p : String) (e : Array Edge) (cs' : Array Value) (ops : Array Oper) (Q : Exit -> Act -> World -> Prop), Act.get a 4 = .pointer (some ⟨b2, 0, none⟩) -> Act.get a d = .agg cs' -> a.defers = [] -> cs'.size = 5 -> TreeI w0 (from' cs' 0) (t.L.getD i .zero) ->
   (∀ a' w', bodyPost Tryz.prog Tryz.f39 (fun e w' => Mod none' w w' /\ ∃ cs', e = .returned (.agg cs') /\ cs'.size = 5 /\ TreeI w0 (from' cs' 0) (t.L.getD i .zero)) .ret a' w' -> Q .normal a' w') ->
   wpList Tryz.prog ops Q [⟨none, .store 39 (.tmp 4) (.tmp d), y, p, e, none⟩] a w2 := by
  intro a d y p e cs' ops Q g4 gd gdf hs5 htr hQ
  have hall : cs'.all (·.oneCell') = true := by
   rw [Array.all_eq_true]
   intro q hq
   have := htr.one q (by omega)
   simpa [from', hq] using this
  refine wpl_skip rfl (x_storeN (cs := cs') (b := b2) (o := 0) (by rw [hs5]; kernel_rfl) (by rw [Ze]; exact g4) (by rw [Ze]; exact gd) hall ?_) (wpList_nil (hQ _ _ ?_))
  ·intro q hq
   rw [Zc r2, Zz r2, Nat.zero_add, Array.getElem?_eq_getElem (by simp; omega)]
   exact ⟨rfl, rfl⟩
  have hm3 := mod_setCells b2 w2 0 cs'.toList
  have k1 := put_tree (cs := cs') r2 (by simp [hs5])
  have mall : Mod none' w (w2.setCells b2 0 cs'.toList) := m12.trans' hm3 (fun _ _ f => f) (fun q hq e => by have e' : q = b2 := e; omega)
  refine bodyPost_ret (results_cellN rfl (cs := cs'.toList) (b := b2) (o := 0) ?_ (by rw [Array.length_toList, hs5]; kernel_rfl) (fun q v hv => by rw [Zc k1, Nat.zero_add]; simpa using hv)) ((Zd _ _ _).trans gdf) ⟨mall, cs', by simp, hs5, ?_⟩
  ·show Act.get _ 4 = _
   rw [Zo]; exact g4
  ·exact htr
 by_cases hi : i < t.L.length
 ·refine wp_cond_true ?_ ?_
  ·simp (disch := first | omega | simp only [Zs]; omega) only [Zo, Ze, Zn, Zq]
   simpa using hi
  rcases hE with ⟨h0, _⟩ | ⟨k, off, cap', C, T, fr, q1, q2, q3, q4, q5⟩
  ·omega
  rw [hv] at q1
  obtain ⟨rfl, rfl⟩ : ao = some ⟨k, off, none⟩ /\ cap = cap' := by simpa using q1
  obtain ⟨cs', hcs', hf'⟩ : ∃ cs' : Array Value, cs'.size = 5 /\ ∀ j, j < 5 -> cs'[j]? = some (f i j) := ⟨#[f i 0, f i 1, f i 2, f i 3, f i 4], rfl, fun j hj => by
   rcases (by omega : j = 0 \/ j = 1 \/ j = 2 \/ j = 3 \/ j = 4) with rfl | rfl | rfl | rfl | rfl <;> rfl⟩
  have q4' := (hm0.trans m12).some q4 (fun f => f)
  refine wp_seq (wp_region_lit (Zv rfl (Za (o := 3) (by kernel_rfl) (b := b1) (o0 := 0) ?_) (Zv rfl (Zl (by kernel_rfl) (b := b1) (o := 0 + 3) (v := .slice (some ⟨k, off, none⟩) t.L.length cap) ?_ ?_) (Zv rfl Zm (Zv rfl (Zx (sz := 5) (i := i) (b := k) (o := off) (n := t.L.length) (cap := cap) (k := .i64) (by kernel_rfl) ?_ ?_ hi) (Zv rfl (x_loadN (cs := cs'.toList) (b := k) (o := off + i * 5) (by rw [Array.length_toList, hcs']; kernel_rfl) ?_ (fun j v hj => ?_)) ?_))))))
  ·simp (disch := first | omega | simp only [Zs]; omega) only [Zo, Ze, Zn, Zq, a2]
  ·simp (disch := first | omega | simp only [Zs]; omega) only [Zo, Ze, Zn, Zq]
  ·rw [Zc r1]; exact c3
  ·simp (disch := first | omega | simp only [Zs]; omega) only [Zo, Ze, Zn, Zq]
  ·simp (disch := first | omega | simp only [Zs]; omega) only [Zo, Ze, Zn, Zq, a1]
  ·simp (disch := first | omega | simp only [Zs]; omega) only [Zo, Ze, Zn, Zq]
  ·rw [Zc q4']
   have hj5 : j < 5 := by
    have := (List.getElem?_eq_some_iff.1 hj).1
    simp at this; omega
   rw [q5 i hi j hj5, <- hj, Array.getElem?_toList, hf' j hj5]
  refine wpl_abs (fun a' => Act.get a' 4 = .pointer (some ⟨b2, 0, none⟩) /\ Act.get a' 14 = .agg cs' /\ a'.defers = []) ⟨?_, ?_, ?_⟩ ?_
  ·simp (disch := first | omega | simp only [Zs]; omega) only [Zo, Ze, Zn, Zq, a4]
  ·simp (disch := first | omega | simp only [Zs]; omega) only [Zo, Ze, Zn, Zq]
  ·simp only [Zd]; exact ad
  rintro a' ⟨g4, g14, gd⟩
  refine fin a' 14 _ _ _ cs' _ _ g4 g14 gd hcs' ?_ (fun _ _ h => wp_ret (by first | exact h | (simp only [Exit.then]; exact h)))
  rw [show t.L.getD i .zero = t.L[i] by simp [List.getD, hi]]
  exact (hL i hi).congr (fromE hf')
 ·refine wp_cond_false ?_ (wp_skip ?_)
  ·simp (disch := first | omega | simp only [Zs]; omega) only [Zo, Ze, Zn, Zq]
   simpa using hi
  refine wp_seq (wp_region_lit (Zv rfl (x_build (cells := #[.int .i64 0, .slice none 0 0, .bool false, .slice none 0 0, .slice none 0 0]) (by kernel_rfl)) ?_))
  refine wpl_abs (fun a' => Act.get a' 4 = .pointer (some ⟨b2, 0, none⟩) /\ Act.get a' 15 = .agg #[.int .i64 0, .slice none 0 0, .bool false, .slice none 0 0, .slice none 0 0] /\ a'.defers = []) ⟨?_, ?_, ?_⟩ ?_
  ·simp (disch := first | omega | simp only [Zs]; omega) only [Zo, Ze, Zn, Zq, a4]
  ·simp (disch := first | omega | simp only [Zs]; omega) only [Zo, Ze, Zn, Zq]
  ·simp only [Zd]; exact ad
  rintro a' ⟨g4, g15, gd⟩
  refine fin a' 15 _ _ _ _ _ _ g4 g15 gd rfl ?_ (fun _ _ h => wp_ret (by first | exact h | (simp only [Exit.then]; exact h)))
  rw [show t.L.getD i .zero = .zero by simp [List.getD, hi]]
  exact TreeI.zero w0
set_option maxRecDepth 20000 in
theorem given_spec : ∀ (N : Nat) (t : Tr), SizeOf.sizeOf t < N -> ∀ (cs : Array Value) (w : World) (F0 : Nat -> Prop), cs.size = 5 -> TreeR w F0 (from' cs 0) t ->
    Calls Tryz.prog fGiven #[.agg cs] w fun e w' => ∃ v, e = .returned v /\ Mod none' w w' /\ TreeV w' (fun k => F0 k \/ w.heap.size <= k) v t := by
  intro N
  induction N with
  | zero => intro t ht; omega
  | succ N ihN =>
  intro t ht cs w F0 hsz hT0
  have hT := hT0.lt
  obtain ⟨F, hF⟩ : ∃ F : Nat -> Prop, F = fun k => F0 k /\ k < w.heap.size := ⟨_, rfl⟩
  rw [<- hF] at hT
  have hFlt : ∀ k, F k -> k < w.heap.size := fun k hk => by rw [hF] at hk; exact hk.2
  have hF0 : ∀ k, F k -> F0 k := fun k hk => by rw [hF] at hk; exact hk.1
  clear hF hT0
  have hone := hT.one
  obtain ⟨c, hc⟩ : ∃ c, c = from' cs 0 := ⟨_, rfl⟩
  have hcs5 := arr5 hsz
  rw [<- hc] at hT hone hcs5
  have hcs : ∀ j, j < 5 -> cs[j]? = some (c j) := fun j hj => by rw [hc]; simp [from', show j < cs.size by omega]
  clear hc
  cases hT with
  | mk h0 hn h1 h2 hbnd h3 h3' h4 h4' =>
  rename_i n s nil null l u f g
  refine calls_of_wp Tryz.func11 rfl ?_
  obtain ⟨aa, haa⟩ : ∃ aa : Act, aa = { tmps := (#[.agg cs] : Array Value) ++ Array.replicate (49 - (#[.agg cs] : Array Value).size) undef, defers := [] } := ⟨_, rfl⟩
  show Code.wp _ _ _ { tmps := (#[.agg cs] : Array Value) ++ Array.replicate (49 - (#[.agg cs] : Array Value).size) undef, defers := [] } w
  rw [<- haa]
  have g0 : Act.get aa 0 = .agg cs := by rw [haa, Zj _ _ _ (by simp)]; rfl
  have gN : aa.tmps.size = 49 := by rw [haa]; simp
  have gd : aa.defers = [] := by rw [haa]
  clear haa
  obtain ⟨b, hb⟩ : ∃ b, b = w.heap.size := ⟨_, rfl⟩
  -- region 0
  obtain ⟨z, hz, hz5⟩ : ∃ z, zeroOf Tryz.prog TI = some z /\ z.cells.size = 5 := ⟨.agg #[.int .i64 0, .slice none 0 0, .bool false, .slice none 0 0, .slice none 0 0], by kernel_rfl, rfl⟩
  refine wp_seq (wp_region_lit (Zv rfl x_box (Zv rfl (x_alloc hz) (wpList_nil ?_))))
  simp only [Ze, g0, Value.cells]
  obtain ⟨w1, hw1⟩ : ∃ w1, w1 = (w.alloc (.cells cs TS)).alloc (.cells z.cells TI) := ⟨_, rfl⟩
  have w1b : w1.heap[b]? = some (.cells cs TS (0, 0)) := by rw [hw1, hb, heap_alloc_old (by simp)]; exact Zh _ _
  have w1z : w1.heap[b + 1]? = some (.cells z.cells TI (0, 0)) := by
    rw [hw1, hb]
    have := Zh (w.alloc (.cells cs TS)) (.cells z.cells TI)
    simpa using this
  have w1s : w1.heap.size = b + 2 := by rw [hw1, hb]; simp
  have w1m : Mod none' w w1 := by rw [hw1]; exact ((Mod.refl w).alloc _).alloc _
  show Code.wp _ _ _ ((aa.put (some 1) (.pointer (some ⟨w.heap.size, 0, none⟩))).put (some 2) (.pointer (some ⟨(w.alloc (.cells cs TS)).heap.size, 0, none⟩))) ((w.alloc (.cells cs TS)).alloc (.cells z.cells TI))
  rw [<- hw1, <- hb, show (w.alloc (.cells cs TS)).heap.size = b + 1 by rw [hb]; simp]
  clear hw1
  -- region 1
  refine wp_seq (wp_region_lit ?_)
  refine Zv rfl (Za (o := 0) (by kernel_rfl) (b := b) (o0 := 0) ?_) ?_
  · simp (disch := first | omega | simp only [Zs]; omega) only [Zo, Ze, Zn, Zq]
  refine Zv rfl (Zl (by kernel_rfl) (b := b) (o := 0) (v := c 0) ?_ ?_) ?_
  · simp (disch := first | omega | simp only [Zs]; omega) only [Zo, Ze, Zn, Zq]
  · rw [Zc w1b]; exact hcs 0 (by omega)
  refine Zv rfl (Za (o := 1) (by kernel_rfl) (b := b) (o0 := 0) ?_) ?_
  · simp (disch := first | omega | simp only [Zs]; omega) only [Zo, Ze, Zn, Zq]
  refine Zv rfl (Zl (by kernel_rfl) (b := b) (o := 1) (v := c 1) ?_ ?_) ?_
  · simp (disch := first | omega | simp only [Zs]; omega) only [Zo, Ze, Zn, Zq]
  · rw [Zc w1b]; exact hcs 1 (by omega)
  refine Zv rfl (Za (o := 2) (by kernel_rfl) (b := b) (o0 := 0) ?_) ?_
  · simp (disch := first | omega | simp only [Zs]; omega) only [Zo, Ze, Zn, Zq]
  refine Zv rfl (Zl (by kernel_rfl) (b := b) (o := 2) (v := c 2) ?_ ?_) ?_
  · simp (disch := first | omega | simp only [Zs]; omega) only [Zo, Ze, Zn, Zq]
  · rw [Zc w1b]; exact hcs 2 (by omega)
  refine Zv rfl (x_build (cells := #[c 0, c 1, c 2, .slice none 0 0, .slice none 0 0]) ?_) ?_
  · simp (disch := first | omega | simp only [Zs]; omega) only [List.map_toArray, List.map_cons, List.map_nil, Zo, Ze, Zn, Zq]
    rw [built_of (places := [(0, 1), (1, 1), (2, 1), (3, 1), (4, 1)]) (z := .agg #[.int .i64 0, .slice none 0 0, .bool false, .slice none 0 0, .slice none 0 0]) (by kernel_rfl)]
    have k0 : (c 0).cells = #[c 0] := one_cells (hone 0 (by omega))
    have k1 : (c 1).cells = #[c 1] := one_cells (hone 1 (by omega))
    have k2 : (c 2).cells = #[c 2] := one_cells (hone 2 (by omega))
    show Instr.fill _ #[.int .i64 0, .slice none 0 0, .bool false, .slice none 0 0, .slice none 0 0] [(0, c 0), (1, c 1), (2, c 2)] = _
    simp [Instr.fill, k0, k1, k2]
  refine Zv rfl (x_alloc hz) ?_
  obtain ⟨w2, hw2⟩ : ∃ w2, w2 = w1.alloc (.cells z.cells TI) := ⟨_, rfl⟩
  have w2n : w2.heap[b + 2]? = some (.cells z.cells TI (0, 0)) := by rw [hw2, <- w1s]; exact Zh _ _
  have w2m : Mod none' w1 w2 := by rw [hw2]; exact (Mod.refl w1).alloc _
  have w2s : w2.heap.size = b + 3 := by rw [hw2]; simp; omega
  show wpList _ _ _ _ (Act.put _ (some 3) (.pointer (some ⟨w1.heap.size, 0, none⟩))) (w1.alloc (.cells z.cells TI))
  rw [<- hw2, w1s]
  clear hw2
  refine wpl_skip rfl (x_storeN (cs := #[c 0, c 1, c 2, .slice none 0 0, .slice none 0 0]) (b := b + 2) (o := 0) (by kernel_rfl) ?_ ?_ ?_ ?_) (wpList_nil ?_)
  · simp (disch := first | omega | simp only [Zs]; omega) only [Zo, Ze, Zn, Zq]
  · simp (disch := first | omega | simp only [Zs]; omega) only [Zo, Ze, Zn, Zq]
  · rw [Array.all_eq_true_iff_forall_mem]
    intro q hq
    simp at hq
    rcases hq with rfl | rfl | rfl | rfl
    · exact hone 0 (by omega)
    · exact hone 1 (by omega)
    · exact hone 2 (by omega)
    · rfl
  · intro j hj
    simp at hj
    rw [Zc w2n, Zz w2n, Array.getElem?_eq_getElem (by omega)]
    exact ⟨rfl, rfl⟩
  obtain ⟨C3, k1, k2, k3, k4⟩ := heap_setCells (w := w2) [c 0, c 1, c 2, .slice none 0 0, .slice none 0 0] 0 _ w2n
  have hC3 : C3 = #[c 0, c 1, c 2, .slice none 0 0, .slice none 0 0] := by
    apply Array.ext
    · rw [k2, hz5]; rfl
    · intro i h1 h2
      have hi : i < 5 := by simpa using h2
      have := k3 i (by simpa using hi) (by omega)
      rw [Nat.zero_add, Array.getElem?_eq_getElem h1] at this
      simpa using this
  subst hC3
  obtain ⟨w3, hw3⟩ : ∃ w3, w3 = w2.setCells (b + 2) 0 [c 0, c 1, c 2, .slice none 0 0, .slice none 0 0] := ⟨_, rfl⟩
  have hm3 : Mod (only (b + 2)) w2 w3 := by rw [hw3]; exact mod_setCells _ _ _ _
  show Code.wp _ _ _ _ (w2.setCells (b + 2) 0 [c 0, c 1, c 2, .slice none 0 0, .slice none 0 0])
  rw [<- hw3] at k1 ⊢
  clear hw3 k3 k4
  have hcg : ∀ j, j < 5 -> cs.getD j undef = c j := fun j hj => by simp [hcs j hj]
  have hG : GMem TS TI TGI b F cs w w3 (.slice none 0 0) (.slice none 0 0) [] [] (l.take 0) (u.take 0) := by
    refine ⟨(w1m.trans w2m).trans' hm3 (fun _ _ f => f) (fun i hi e => by have : i = b + 2 := e; omega), by have := hm3.size; omega, hm3.some (w2m.some w1b (fun f => f)) (fun e => by have : b = b + 2 := e; omega),
      ⟨z.cells, hm3.some (w2m.some w1z (fun f => f)) (fun e => by have : b + 1 = b + 2 := e; omega), hz5⟩, ?_, World.ownsRow_nil _ _ _ _, World.ownsRow_nil _ _ _ _, fun k hk => by simp [Value.ownBlock] at hk, fun i hi => by simp at hi, fun i hi => by simp at hi⟩
    rw [hcg 0 (by omega), hcg 1 (by omega), hcg 2 (by omega)]
    exact k1
  -- the slots
  refine wp_act (fun a : Act => Act.get a 1 = .pointer (some ⟨b, 0, none⟩) /\ Act.get a 2 = .pointer (some ⟨b + 1, 0, none⟩) /\ Act.get a 3 = .pointer (some ⟨b + 2, 0, none⟩) /\ a.tmps.size = 49 /\ a.defers = []) ⟨?_, ?_, ?_, ?_, ?_⟩ ?_
  · simp (disch := first | omega | simp only [Zs]; omega) only [Zo, Ze, Zn, Zq]
  · simp (disch := first | omega | simp only [Zs]; omega) only [Zo, Ze, Zn, Zq]
  · simp (disch := first | omega | simp only [Zs]; omega) only [Zo, Ze, Zn, Zq]
  · simp only [Zs]; exact gN
  · simp only [Zd]; exact gd
  rintro a3 ⟨q1, q2, q3, qN, qd⟩
  clear gN gd g0
  -- region 2
  refine wp_seq (wp_seq (wp_region_lit ?_))
  refine Zv rfl (Za (o := 3) (by kernel_rfl) (b := b) (o0 := 0) ?_) ?_
  · simp (disch := first | omega | simp only [Zs]; omega) only [Zo, Ze, Zn, Zq, q1]
  refine Zv rfl (Zl (by kernel_rfl) (b := b) (o := 3) (v := c 3) ?_ ?_) ?_
  · simp (disch := first | omega | simp only [Zs]; omega) only [Zo, Ze, Zn, Zq]
  · rw [Zc hG.h1]; exact hcs 3 (by omega)
  have hsl : ∃ ao cap, c 3 = .slice ao l.length cap := by
    rcases h3 with ⟨h, h'⟩ | ⟨k, off, cap, C, t, fr, h1, h2, _⟩
    · exact ⟨none, 0, by rw [h', h]⟩
    · exact ⟨_, _, h2⟩
  obtain ⟨ao, cap, hsl⟩ := hsl
  refine Zv rfl (x_len (by kernel_rfl) rfl (ao := ao) (cap := cap) (n := l.length) ?_) ?_
  · rw [Ze, <- hsl]; simp (disch := first | omega | simp only [Zs]; omega) only [Zo, Ze, Zn, Zq]
  refine Zv rfl Zm (wpList_nil ?_)
  refine wp_act (fun a : Act => Act.get a 1 = .pointer (some ⟨b, 0, none⟩) /\ Act.get a 2 = .pointer (some ⟨b + 1, 0, none⟩) /\ Act.get a 3 = .pointer (some ⟨b + 2, 0, none⟩) /\ Act.get a 16 = c 3 /\ Act.get a 17 = .int .i64 l.length /\ Act.get a 18 = .int .i64 (0 : Nat) /\ a.tmps.size = 49 /\ a.defers = []) ⟨?_, ?_, ?_, ?_, ?_, ?_, ?_, ?_⟩ ?_
  · simp (disch := first | omega | simp only [Zs]; omega) only [Zo, Ze, Zn, Zq, q1]
  · simp (disch := first | omega | simp only [Zs]; omega) only [Zo, Ze, Zn, Zq, q2]
  · simp (disch := first | omega | simp only [Zs]; omega) only [Zo, Ze, Zn, Zq, q3]
  · simp (disch := first | omega | simp only [Zs]; omega) only [Zo, Ze, Zn, Zq]
  · simp (disch := first | omega | simp only [Zs]; omega) only [Zo, Ze, Zn, Zq]
  · simp (disch := first | omega | simp only [Zs]; omega) only [Zo, Ze, Zn, Zq]
    rfl
  · simp only [Zs]; exact qN
  · simp only [Zd]; exact qd
  rintro a4 ⟨r1, r2, r3, r16, r17, r18, rN, rd⟩
  clear qN qd q1 q2 q3
  refine wp_block ?_
  refine wp_loop (fun a w' => a.tmps.size = 49 /\ a.defers = [] /\ Act.get a 1 = .pointer (some ⟨b, 0, none⟩) /\ Act.get a 2 = .pointer (some ⟨b + 1, 0, none⟩) /\ Act.get a 3 = .pointer (some ⟨b + 2, 0, none⟩) /\ Act.get a 16 = c 3 /\ Act.get a 17 = .int .i64 l.length /\
    ∃ i, i <= l.length /\ Act.get a 18 = .int .i64 (i : Nat) /\ ∃ lv lrow, GMem TS TI TGI b F cs w w' lv (.slice none 0 0) lrow [] (l.take i) (u.take 0)) (fun a _ => ldN l (Act.get a 18)) ⟨rN, rd, r1, r2, r3, r16, r17, 0, Nat.zero_le _, r18, _, _, hG⟩ ?_
  clear r1 r2 r3 r16 r17 r18 rN rd hG
  clear k1 hm3
  rintro a w' ⟨aN, ad, r1, r2, r3, r16, r17, i, hi, r18, lv, lrow, hG⟩
  refine wp_seq (wp_region_lit (Zv rfl (x_lss (k := .i64) (m := (i : Nat)) (n := (l.length : Nat)) ?_ ?_) (wpList_nil ?_)))
  · exact r18
  · exact r17
  by_cases hil : i < l.length
  case neg =>
    have hieq : i = l.length := by omega
    subst hieq
    refine wp_seq (wp_cond_false ?_ (wp_exit ?_))
    · rw [Ze, Zq (by omega)]; simp
    simp only [Exit.then, Exit.inBlock, if_true]
    rw [List.take_length] at hG
    refine wp_act (fun a : Act => Act.get a 1 = .pointer (some ⟨b, 0, none⟩) /\ Act.get a 2 = .pointer (some ⟨b + 1, 0, none⟩) /\ Act.get a 3 = .pointer (some ⟨b + 2, 0, none⟩) /\ a.tmps.size = 49 /\ a.defers = []) ⟨?_, ?_, ?_, ?_, ?_⟩ ?_
    · simp (disch := first | omega | simp only [Zs]; omega) only [Zo, Ze, Zn, Zq, r1]
    · simp (disch := first | omega | simp only [Zs]; omega) only [Zo, Ze, Zn, Zq, r2]
    · simp (disch := first | omega | simp only [Zs]; omega) only [Zo, Ze, Zn, Zq, r3]
    · simp only [Zs]; exact aN
    · simp only [Zd]; exact ad
    rintro a6 ⟨q1, q2, q3, qN, qd⟩
    refine wp_seq (wp_seq (wp_region_lit ?_))
    refine Zv rfl (Za (o := 4) (by kernel_rfl) (b := b) (o0 := 0) ?_) ?_
    · simp (disch := first | omega | simp only [Zs]; omega) only [Zo, Ze, Zn, Zq, q1]
    refine Zv rfl (Zl (by kernel_rfl) (b := b) (o := 4) (v := c 4) ?_ ?_) ?_
    · simp (disch := first | omega | simp only [Zs]; omega) only [Zo, Ze, Zn, Zq]
    · rw [Zc hG.h1]; exact hcs 4 (by omega)
    have hsl4 : ∃ ao cap, c 4 = .slice ao u.length cap := by
      rcases h4 with ⟨h, h'⟩ | ⟨k, off, cap, C, t, fr, h1, h2, _⟩
      · exact ⟨none, 0, by rw [h', h]⟩
      · exact ⟨_, _, h2⟩
    obtain ⟨ao4, cap4, hsl4⟩ := hsl4
    refine Zv rfl (x_len (by kernel_rfl) rfl (ao := ao4) (cap := cap4) (n := u.length) ?_) ?_
    · rw [Ze, <- hsl4]; simp (disch := first | omega | simp only [Zs]; omega) only [Zo, Ze, Zn, Zq]
    refine Zv rfl Zm (wpList_nil ?_)
    refine wp_act (fun a : Act => Act.get a 1 = .pointer (some ⟨b, 0, none⟩) /\ Act.get a 2 = .pointer (some ⟨b + 1, 0, none⟩) /\ Act.get a 3 = .pointer (some ⟨b + 2, 0, none⟩) /\ Act.get a 31 = c 4 /\ Act.get a 32 = .int .i64 u.length /\ Act.get a 33 = .int .i64 (0 : Nat) /\ a.tmps.size = 49 /\ a.defers = []) ⟨?_, ?_, ?_, ?_, ?_, ?_, ?_, ?_⟩ ?_
    · simp (disch := first | omega | simp only [Zs]; omega) only [Zo, Ze, Zn, Zq, q1]
    · simp (disch := first | omega | simp only [Zs]; omega) only [Zo, Ze, Zn, Zq, q2]
    · simp (disch := first | omega | simp only [Zs]; omega) only [Zo, Ze, Zn, Zq, q3]
    · simp (disch := first | omega | simp only [Zs]; omega) only [Zo, Ze, Zn, Zq]
    · simp (disch := first | omega | simp only [Zs]; omega) only [Zo, Ze, Zn, Zq]
    · simp (disch := first | omega | simp only [Zs]; omega) only [Zo, Ze, Zn, Zq]
      rfl
    · simp only [Zs]; exact qN
    · simp only [Zd]; exact qd
    rintro a7 ⟨p1, p2, p3, p31, p32, p33, pN, pd⟩
    refine wp_block ?_
    refine wp_loop (fun a w' => a.tmps.size = 49 /\ a.defers = [] /\ Act.get a 1 = .pointer (some ⟨b, 0, none⟩) /\ Act.get a 2 = .pointer (some ⟨b + 1, 0, none⟩) /\ Act.get a 3 = .pointer (some ⟨b + 2, 0, none⟩) /\ Act.get a 31 = c 4 /\ Act.get a 32 = .int .i64 u.length /\
      ∃ i, i <= u.length /\ Act.get a 33 = .int .i64 (i : Nat) /\ ∃ uv urow, GMem TS TI TGI b F cs w w' lv uv lrow urow l (u.take i)) (fun a _ => udN u (Act.get a 33)) ⟨pN, pd, p1, p2, p3, p31, p32, 0, Nat.zero_le _, p33, _, _, hG⟩ ?_
    clear p1 p2 p3 p31 p32 p33 pN pd hG q1 q2 q3 qN qd r1 r2 r3 r16 r17 r18 aN ad
    rintro a w' ⟨aN, ad, r1, r2, r3, r31, r32, i, hi, r33, uv, urow, hG⟩
    refine wp_seq (wp_region_lit (Zv rfl (x_lss (k := .i64) (m := (i : Nat)) (n := (u.length : Nat)) ?_ ?_) (wpList_nil ?_)))
    · exact r33
    · exact r32
    by_cases hil : i < u.length
    case neg =>
      have hieq : i = u.length := by omega
      subst hieq
      refine wp_seq (wp_cond_false ?_ (wp_exit ?_))
      · rw [Ze, Zq (by omega)]; simp
      simp only [Exit.then, Exit.inBlock, if_true]
      rw [List.take_length] at hG
      obtain ⟨z2, hz2, hz25⟩ := hG.h2
      obtain ⟨ce, hce⟩ : ∃ ce : Array Value, ce = #[cs.getD 0 undef, cs.getD 1 undef, cs.getD 2 undef, lv, uv] := ⟨_, rfl⟩
      have hce5 : ce.size = 5 := by rw [hce]; rfl
      have hh3 := hG.h3
      rw [<- hce] at hh3
      have hceone : ce.all (·.oneCell') = true := by
        rw [hce, Array.all_eq_true_iff_forall_mem]
        intro q hq
        simp at hq
        rcases hq with rfl | rfl | rfl | rfl | rfl
        · have := hone 0 (by omega); rw [<- hcg 0 (by omega)] at this; simpa using this
        · have := hone 1 (by omega); rw [<- hcg 1 (by omega)] at this; simpa using this
        · have := hone 2 (by omega); rw [<- hcg 2 (by omega)] at this; simpa using this
        · exact ownsRow_one hG.lo
        · exact ownsRow_one hG.uo
      refine wp_seq (wp_region_lit ?_)
      refine Zv rfl (x_loadN (cs := ce.toList) (b := b + 2) (o := 0) ?_ ?_ ?_) ?_
      · rw [Array.length_toList, hce5]; kernel_rfl
      · simp (disch := first | omega | simp only [Zs]; omega) only [Zo, Ze, Zn, Zq, r3]
      · intro j v hv
        rw [Zc hh3, Nat.zero_add]; simpa using hv
      refine wpl_skip rfl (x_storeN (cs := ce) (b := b + 1) (o := 0) ?_ ?_ ?_ hceone ?_) (wpList_nil ?_)
      · rw [hce5]; kernel_rfl
      · simp (disch := first | omega | simp only [Zs]; omega) only [Zo, Ze, Zn, Zq, r2]
      · simp (disch := first | omega | simp only [Zs]; omega) only [Zo, Ze, Zn, Zq]
      · intro j hj
        rw [Zc hz2, Zz hz2, Array.getElem?_eq_getElem (by omega)]
        exact ⟨rfl, rfl⟩
      obtain ⟨C3, k1, k2, k3, k4⟩ := heap_setCells (w := w') ce.toList 0 _ hz2
      have hC3 : C3 = ce := by
        apply Array.ext
        · omega
        · intro i h1 h2
          have := k3 i (by simpa using h2) (by omega)
          rw [Nat.zero_add, Array.getElem?_eq_getElem h1] at this
          simpa [h2] using this
      subst hC3
      obtain ⟨w4, hw4⟩ : ∃ w4, w4 = w'.setCells (b + 1) 0 C3.toList := ⟨_, rfl⟩
      have hm4 : Mod (only (b + 1)) w' w4 := by rw [hw4]; exact mod_setCells _ _ _ _
      rw [<- hw4] at k1 ⊢
      clear hw4 k3 k4
      refine wp_ret (bodyPost_ret (results_cellN rfl (b := b + 1) (o := 0) (cs := C3.toList) ?_ ?_ ?_) ?_ ?_)
      · show Act.get _ 2 = _
        simp (disch := first | omega | simp only [Zs]; omega) only [Zo, Ze, Zn, Zq, r2]
      · rw [Array.length_toList, hce5]; kernel_rfl
      · intro j v hv
        rw [Zc k1, Nat.zero_add]; simpa using hv
      · simp only [Zd]; exact ad
      · have hmm : Mod none' w w4 := hG.mod.trans' hm4 (fun _ _ f => f) (fun j hj e => by have : j = b + 1 := e; omega)
        refine ⟨_, rfl, hmm, C3, rfl, hce5, hceone, ?_⟩
        have hF1 : ∀ k, FG F b lv uv w' k -> ¬ only (b + 1) k := fun k hk e => by
          have : k = b + 1 := e
          rcases hk with hk | hk
          · have := hFlt k hk; omega
          · omega
        have hF2 : ∀ k, FG F b lv uv w' k -> F0 k \/ b <= k := fun k hk => by
          rcases hk with hk | hk
          · exact .inl (hF0 k hk)
          · exact .inr (by omega)
        have hlb : ∀ k, lv.ownBlock = some k -> ¬ only (b + 1) k := fun k hk e => by have : k = b + 1 := e; have := (hG.lo.lt k hk).1; omega
        have hub : ∀ k, uv.ownBlock = some k -> ¬ only (b + 1) k := fun k hk e => by have : k = b + 1 := e; have := (hG.uo.lt k hk).1; omega
        have ee : ∀ j, from' C3 0 j = #[cs.getD 0 undef, cs.getD 1 undef, cs.getD 2 undef, lv, uv].getD j undef := fun j => by rw [hce]; simp [from']
        have e0 : from' C3 0 0 = c 0 := by rw [ee]; exact hcg 0 (by omega)
        have e1 : from' C3 0 1 = c 1 := by rw [ee]; exact hcg 1 (by omega)
        have e2 : from' C3 0 2 = c 2 := by rw [ee]; exact hcg 2 (by omega)
        have e3 : from' C3 0 3 = lv := by rw [ee]; rfl
        have e4 : from' C3 0 4 = uv := by rw [ee]; rfl
        refine .mk (f := fun i j => lrow.getD (i * 5 + j) undef) (g := fun i j => urow.getD (i * 2 + j) undef) (e0.trans h0) hn (by rw [e1]; exact h1.mod hmm (fun _ _ f => f) (fun k hk => .inl (hF0 k hk))) (e2.trans h2) hbnd ?_ ?_ ?_ ?_
        · rw [e3]
          exact elems_own (ownsRow_mod hG.lo hm4 hlb) (fun k hk => .inr (by have := (hG.lo.lt k hk).1; omega))
        · intro i hi
          exact (hG.lt i hi).mod hm4 hF1 hF2
        · rw [e4]
          exact elems_own (ownsRow_mod hG.uo hm4 hub) (fun k hk => .inr (by have := (hG.uo.lt k hk).1; omega))
        · intro i hi
          obtain ⟨g1, g2, nil, g3⟩ := hG.ut i hi
          exact ⟨g1, g2, nil, g3.mod hm4 hF1 hF2⟩
    case pos =>
      refine wp_seq (wp_cond_true ?_ (wp_skip ?_))
      · rw [Ze, Zq (by omega)]; simp; omega
      refine wp_seq (wp_block (wp_seq (wp_region_lit ?_)))
      rcases h4 with ⟨h, _⟩ | ⟨k, off, cap', C, tC, fr, e1, e2, e3, e4, e5, e6⟩
      · omega
      have e5' := hG.mod.some e5 (fun f => f)
      refine Zv rfl (Zx (sz := 2) (i := i) (b := k) (o := off) (n := u.length) (cap := cap') (k := .i64) (by kernel_rfl) ?_ ?_ hil) ?_
      · simp (disch := first | omega | simp only [Zs]; omega) only [Zo, Ze, Zn, Zq, r31]
        exact e2
      · simp (disch := first | omega | simp only [Zs]; omega) only [Zo, Ze, Zn, Zq, r33]
      obtain ⟨f0, f1, nilT, f2⟩ := h4' i hil
      have honeT : (g i 1).oneCell' = true := oct_one f2
      refine Zv rfl (x_loadN (cs := [g i 0, g i 1]) (b := k) (o := off + i * 2) (by kernel_rfl) ?_ ?_) ?_
      · simp (disch := first | omega | simp only [Zs]; omega) only [Zo, Ze, Zn, Zq]
      · intro j v hv
        rw [Zc e5']
        match j, hv with
        | 0, hv => simp at hv; subst hv; exact e6 i hil 0 (by omega)
        | 1, hv => simp at hv; subst hv; exact e6 i hil 1 (by omega)
        | j + 2, hv => simp at hv
      obtain ⟨zi, hzi, hzi2⟩ : ∃ z, zeroOf Tryz.prog TG = some z /\ z.cells.size = 2 := ⟨.agg #[.int .u32 0, .slice none 0 0], by kernel_rfl, rfl⟩
      refine Zv rfl (x_alloc hzi) ?_
      obtain ⟨w2, hw2⟩ : ∃ w2, w2 = w'.alloc (.cells zi.cells TG) := ⟨_, rfl⟩
      have v2n : w2.heap[w'.heap.size]? = some (.cells zi.cells TG (0, 0)) := by rw [hw2]; exact Zh _ _
      have v2m : Mod none' w' w2 := by rw [hw2]; exact (Mod.refl w').alloc _
      show wpList _ _ _ _ (Act.put _ (some 7) (.pointer (some ⟨w'.heap.size, 0, none⟩))) (w'.alloc (.cells zi.cells TG))
      rw [<- hw2]
      clear hw2
      refine wpl_skip rfl (x_storeN (cs := #[g i 0, g i 1]) (b := w'.heap.size) (o := 0) (by kernel_rfl) ?_ ?_ (by simp [f0, honeT, Value.oneCell']; exact honeT) ?_) (wpList_nil ?_)
      · simp (disch := first | omega | simp only [Zs]; omega) only [Zo, Ze, Zn, Zq]
      · simp (disch := first | omega | simp only [Zs]; omega) only [Zo, Ze, Zn, Zq]
      · intro j hj
        simp at hj
        rw [Zc v2n, Zz v2n, Array.getElem?_eq_getElem (by omega)]
        exact ⟨rfl, rfl⟩
      obtain ⟨C5, k1, k2, k3, k4⟩ := heap_setCells (w := w2) [g i 0, g i 1] 0 _ v2n
      have hC5 : C5 = #[g i 0, g i 1] := by
        apply Array.ext
        · rw [k2, hzi2]; rfl
        · intro i h1 h2
          have hi : i < 2 := by simpa using h2
          have := k3 i (by simpa using hi) (by omega)
          rw [Nat.zero_add, Array.getElem?_eq_getElem h1] at this
          simpa using this
      subst hC5
      obtain ⟨wr, hwr⟩ : ∃ w3, w3 = w2.setCells w'.heap.size 0 [g i 0, g i 1] := ⟨_, rfl⟩
      have hmr : Mod (only w'.heap.size) w2 wr := by rw [hwr]; exact mod_setCells _ _ _ _
      show Code.wp _ _ _ _ (w2.setCells w'.heap.size 0 [g i 0, g i 1])
      rw [<- hwr] at k1 ⊢
      clear hwr k3 k4 v2n
      have hm' : Mod none' w' wr := v2m.trans' hmr (fun _ _ f => f) (fun j hj e => by have : j = w'.heap.size := e; omega)
      replace hG := hG.grow hm'
      obtain ⟨xb, hxb⟩ : ∃ xb, xb = w'.heap.size := ⟨_, rfl⟩
      rw [<- hxb] at k1 ⊢
      have hxl : xb < wr.heap.size := lt_of_block k1
      clear hm' hmr v2m
      refine wp_act (fun a : Act => Act.get a 1 = .pointer (some ⟨b, 0, none⟩) /\ Act.get a 2 = .pointer (some ⟨b + 1, 0, none⟩) /\ Act.get a 3 = .pointer (some ⟨b + 2, 0, none⟩) /\ Act.get a 31 = c 4 /\ Act.get a 32 = .int .i64 u.length /\ Act.get a 33 = .int .i64 (i : Nat) /\
        Act.get a 7 = .pointer (some ⟨xb, 0, none⟩) /\ a.tmps.size = 49 /\ a.defers = []) ⟨?_, ?_, ?_, ?_, ?_, ?_, ?_, ?_, ?_⟩ ?_
      · simp (disch := first | omega | simp only [Zs]; omega) only [Zo, Ze, Zn, Zq, r1]
      · simp (disch := first | omega | simp only [Zs]; omega) only [Zo, Ze, Zn, Zq, r2]
      · simp (disch := first | omega | simp only [Zs]; omega) only [Zo, Ze, Zn, Zq, r3]
      · simp (disch := first | omega | simp only [Zs]; omega) only [Zo, Ze, Zn, Zq, r31]
      · simp (disch := first | omega | simp only [Zs]; omega) only [Zo, Ze, Zn, Zq, r32]
      · simp (disch := first | omega | simp only [Zs]; omega) only [Zo, Ze, Zn, Zq, r33]
      · simp (disch := first | omega | simp only [Zs]; omega) only [Zo, Ze, Zn, Zq]
      · simp only [Zs]; exact aN
      · simp only [Zd]; exact ad
      rintro a5 ⟨s1, s2, s3, s31, s32, s33, s7, sN, sd⟩
      have r33' := r33
      clear aN ad r1 r2 r3 r31 r32 r33
      refine wp_region_lit ?_
      refine Zv rfl (Za (o := 4) (by kernel_rfl) (b := b + 2) (o0 := 0) ?_) ?_
      · simp (disch := first | omega | simp only [Zs]; omega) only [Zo, Ze, Zn, Zq, s3]
      refine Zv rfl (Zl (by kernel_rfl) (b := b + 2) (o := 4) (v := uv) ?_ ?_) ?_
      · simp (disch := first | omega | simp only [Zs]; omega) only [Zo, Ze, Zn, Zq]
      · rw [Zc hG.h3]; rfl
      refine Zv rfl (Za (o := 0) (by kernel_rfl) (b := xb) (o0 := 0) ?_) ?_
      · simp (disch := first | omega | simp only [Zs]; omega) only [Zo, Ze, Zn, Zq, s7]
      refine Zv rfl (Zl (by kernel_rfl) (b := xb) (o := 0) (v := g i 0) ?_ ?_) ?_
      · simp (disch := first | omega | simp only [Zs]; omega) only [Zo, Ze, Zn, Zq]
      · rw [Zc k1]; rfl
      refine Zv rfl (Za (o := 1) (by kernel_rfl) (b := xb) (o0 := 0) ?_) ?_
      · simp (disch := first | omega | simp only [Zs]; omega) only [Zo, Ze, Zn, Zq, s7]
      refine Zv rfl (Zl (by kernel_rfl) (b := xb) (o := 1) (v := g i 1) ?_ ?_) ?_
      · simp (disch := first | omega | simp only [Zs]; omega) only [Zo, Ze, Zn, Zq]
      · rw [Zc k1]; rfl
      refine Zv rfl (x_build (cells := #[g i 0, g i 1]) ?_) ?_
      · simp (disch := first | omega | simp only [Zs]; omega) only [List.map_toArray, List.map_cons, List.map_nil, Zo, Ze, Zn, Zq]
        rw [built_of (places := [(0, 1), (1, 1)]) (z := .agg #[.int .u32 0, .slice none 0 0]) (by kernel_rfl)]
        have k0 : (g i 0).cells = #[g i 0] := one_cells (by rw [f0]; rfl)
        have k1 : (g i 1).cells = #[g i 1] := one_cells honeT
        show Instr.fill _ #[.int .u32 0, .slice none 0 0] [(0, g i 0), (1, g i 1)] = _
        simp [Instr.fill, k0, k1]
      refine Zv rfl (x_buildSlice1 (e := TGI) (sz := 2) (v := .agg #[g i 0, g i 1]) (by kernel_rfl) ?_ rfl) ?_
      · simp (disch := first | omega | simp only [Zs]; omega) only [Zo, Ze, Zn, Zq]
      obtain ⟨v1, hv1⟩ : ∃ v1, v1 = wr.alloc (.cells #[g i 0, g i 1] TGI) := ⟨_, rfl⟩
      have v1n : v1.heap[wr.heap.size]? = some (.cells #[g i 0, g i 1] TGI (0, 0)) := by rw [hv1]; exact Zh _ _
      have v1m : Mod none' wr v1 := by rw [hv1]; exact (Mod.refl wr).alloc _
      show wpList _ _ _ _ (Act.put _ (some 44) (.slice (some ⟨wr.heap.size, 0, none⟩) 1 1)) (wr.alloc (.cells #[g i 0, g i 1] TGI))
      rw [<- hv1]
      clear hv1
      have hG1 := hG.grow v1m
      have hlen : (u.take i).length = i := by rw [List.length_take]; omega
      refine wpl_append (e := TGI) (sz := 2) (base := b + 3) (v := uv) (n := i) (xs := urow) (ad := ⟨wr.heap.size, 0, none⟩) (m := 1) (c := 1) (news := [g i 0, g i 1]) (by kernel_rfl) ?_ ?_ (hlen ▸ hG1.uo) rfl (fun j u hu => by
          rw [Addr.add_mid, Zc v1n, Nat.zero_add]; simpa using hu) (by intro q hq; simp at hq; rcases hq with rfl | rfl; (rw [f0]; rfl); exact honeT) (by omega) hG1.size ?_
      · simp (disch := first | omega | simp only [Zs]; omega) only [Zo, Ze, Zn, Zq]
      · simp (disch := first | omega | simp only [Zs]; omega) only [Zo, Ze, Zn, Zq]
      intro v' v2 ho hmo hnn hnew
      have hbx : uv.ownBlock ≠ some (b + 2) := fun e => by have := (hG1.uo.lt _ e).1; omega
      have hh3 := hmo.some hG1.h3 hbx
      refine Zv rfl (Za (o := 4) (by kernel_rfl) (b := b + 2) (o0 := 0) ?_) ?_
      · simp (disch := first | omega | simp only [Zs]; omega) only [Zo, Ze, Zn, Zq, s3]
      refine wpl_skip rfl (x_store1 (by kernel_rfl) (b := b + 2) (o := 4) (v := v') (u := uv) ?_ ?_ (ownsRow_one ho) ?_ ?_) (wpList_nil ?_)
      · simp (disch := first | omega | simp only [Zs]; omega) only [Zo, Ze, Zn, Zq]
      · simp (disch := first | omega | simp only [Zs]; omega) only [Zo, Ze, Zn, Zq]
      · rw [Zc hh3]; rfl
      · exact Zz hh3
      have hpush := hG1.pushU (by rw [hb]; exact hFlt) hb.symm hmo (by rw [hlen]; exact ho) rfl hnew (q := u[i]) (show [g i 0, g i 1].getD 0 undef = _ /\ _ /\ ∃ nil, Oct v1 _ ([g i 0, g i 1].getD 1 undef) _ nil from ⟨f0, f1, nilT, f2.mod hG1.mod (fun _ _ f => f) (fun k hk => Or.inl hk)⟩)
      rw [show u.take i ++ [u[i]] = u.take (i + 1) by simp] at hpush
      obtain ⟨v3, hv3⟩ : ∃ v3, v3 = v2.setCell ⟨b + 2, 4, none⟩ v' := ⟨_, rfl⟩
      rw [<- hv3] at hpush ⊢
      clear hv3
      simp only [Exit.then, Exit.inBlock]
      refine wp_region_lit (Zv rfl (x_add (k := .i64) (m := (i : Nat)) (n := 1) ?_ rfl) (Zv rfl Zm (wpList_nil ?_)))
      · simp (disch := first | omega | simp only [Zs]; omega) only [Zo, Ze, Zn, Zq]
        exact s33
      have hwrap : IntKind.i64.wrap ((i : Int) + 1) = ((i + 1 : Nat) : Int) := by rw [IntKind.wrap_i64]; omega
      refine ⟨⟨?_, ?_, ?_, ?_, ?_, ?_, ?_, i + 1, by omega, ?_, v', urow ++ [g i 0, g i 1], hpush⟩, ?_⟩
      · simp only [Zs]; exact sN
      · simp only [Zd]; exact sd
      · simp (disch := first | omega | simp only [Zs]; omega) only [Zo, Ze, Zn, Zq, s1]
      · simp (disch := first | omega | simp only [Zs]; omega) only [Zo, Ze, Zn, Zq, s2]
      · simp (disch := first | omega | simp only [Zs]; omega) only [Zo, Ze, Zn, Zq, s3]
      · simp (disch := first | omega | simp only [Zs]; omega) only [Zo, Ze, Zn, Zq, s31]
      · simp (disch := first | omega | simp only [Zs]; omega) only [Zo, Ze, Zn, Zq, s32]
      · simp (disch := first | omega | simp only [Zs]; omega) only [Zo, Ze, Zn, Zq]
        rw [hwrap]
      · simp (disch := first | omega | simp only [Zs]; omega) only [Zo, Ze, Zn, Zq]
        rw [hwrap, r33']
        simp only [udN, Int.toNat_natCast]
        omega
  case pos =>
    refine wp_seq (wp_cond_true ?_ (wp_skip ?_))
    · rw [Ze, Zq (by omega)]; simp; omega
    refine wp_seq (wp_block (wp_seq (wp_region_lit ?_)))
    rcases h3 with ⟨h, _⟩ | ⟨k, off, cap', C, tC, fr, e1, e2, e3, e4, e5, e6⟩
    · omega
    have e5' := hG.mod.some e5 (fun f => f)
    have hkb : k < b := by rw [hb]; exact hFlt k e1
    refine Zv rfl (Zx (sz := 5) (i := i) (b := k) (o := off) (n := l.length) (cap := cap') (k := .i64) (by kernel_rfl) ?_ ?_ hil) ?_
    · simp (disch := first | omega | simp only [Zs]; omega) only [Zo, Ze, Zn, Zq, r16]
      exact e2
    · simp (disch := first | omega | simp only [Zs]; omega) only [Zo, Ze, Zn, Zq, r18]
    refine Zv rfl (x_loadN (cs := [f i 0, f i 1, f i 2, f i 3, f i 4]) (b := k) (o := off + i * 5) (by kernel_rfl) ?_ ?_) ?_
    · simp (disch := first | omega | simp only [Zs]; omega) only [Zo, Ze, Zn, Zq]
    · refine range5 fun j hj => ?_
      rw [Zc e5']
      exact e6 i hil j hj
    obtain ⟨zi, hzi, hzi5⟩ : ∃ z, zeroOf Tryz.prog TS = some z /\ z.cells.size = 5 := ⟨.agg #[.int .i64 0, .slice none 0 0, .bool false, .slice none 0 0, .slice none 0 0], by kernel_rfl, rfl⟩
    refine Zv rfl (x_alloc hzi) ?_
    obtain ⟨w2, hw2⟩ : ∃ w2, w2 = w'.alloc (.cells zi.cells TS) := ⟨_, rfl⟩
    have v2n : w2.heap[w'.heap.size]? = some (.cells zi.cells TS (0, 0)) := by rw [hw2]; exact Zh _ _
    have v2m : Mod none' w' w2 := by rw [hw2]; exact (Mod.refl w').alloc _
    show wpList _ _ _ _ (Act.put _ (some 5) (.pointer (some ⟨w'.heap.size, 0, none⟩))) (w'.alloc (.cells zi.cells TS))
    rw [<- hw2]
    have v2s : w2.heap.size = w'.heap.size + 1 := by rw [hw2]; simp
    clear hw2
    have hTi := h3' i hil
    have r18' := r18
    have honei := hTi.one
    refine wpl_skip rfl (x_storeN (cs := #[f i 0, f i 1, f i 2, f i 3, f i 4]) (b := w'.heap.size) (o := 0) (by kernel_rfl) ?_ ?_ (all5 honei) ?_) (wpList_nil ?_)
    · simp (disch := first | omega | simp only [Zs]; omega) only [Zo, Ze, Zn, Zq]
    · simp (disch := first | omega | simp only [Zs]; omega) only [Zo, Ze, Zn, Zq]
    · intro j hj
      simp at hj
      rw [Zc v2n, Zz v2n, Array.getElem?_eq_getElem (by omega)]
      exact ⟨rfl, rfl⟩
    obtain ⟨C5, k1, k2, k3, k4⟩ := heap_setCells (w := w2) [f i 0, f i 1, f i 2, f i 3, f i 4] 0 _ v2n
    have hC5 : C5 = #[f i 0, f i 1, f i 2, f i 3, f i 4] := by
      apply Array.ext
      · rw [k2, hzi5]; rfl
      · intro i h1 h2
        have hi : i < 5 := by simpa using h2
        have := k3 i (by simpa using hi) (by omega)
        rw [Nat.zero_add, Array.getElem?_eq_getElem h1] at this
        simpa using this
    subst hC5
    obtain ⟨wr, hwr⟩ : ∃ w3, w3 = w2.setCells w'.heap.size 0 [f i 0, f i 1, f i 2, f i 3, f i 4] := ⟨_, rfl⟩
    have hmr : Mod (only w'.heap.size) w2 wr := by rw [hwr]; exact mod_setCells _ _ _ _
    show Code.wp _ _ _ _ (w2.setCells w'.heap.size 0 [f i 0, f i 1, f i 2, f i 3, f i 4])
    rw [<- hwr] at k1 ⊢
    clear hwr k3 k4 v2n
    have hm' : Mod none' w' wr := v2m.trans' hmr (fun _ _ f => f) (fun j hj e => by have : j = w'.heap.size := e; omega)
    replace hG := hG.grow hm'
    obtain ⟨xb, hxb⟩ : ∃ xb, xb = w'.heap.size := ⟨_, rfl⟩
    rw [<- hxb] at k1 ⊢
    have hxl : xb < wr.heap.size := lt_of_block k1
    have hxg : b + 3 <= wr.heap.size := hG.size
    clear hm' hmr v2m v2s
    have hTr : TreeR wr F (f i) l[i] := hTi.mod hG.mod (fun _ _ f => f) (fun _ h => h)
    refine wp_act (fun a : Act => Act.get a 1 = .pointer (some ⟨b, 0, none⟩) /\ Act.get a 2 = .pointer (some ⟨b + 1, 0, none⟩) /\ Act.get a 3 = .pointer (some ⟨b + 2, 0, none⟩) /\ Act.get a 16 = c 3 /\ Act.get a 17 = .int .i64 l.length /\ Act.get a 18 = .int .i64 (i : Nat) /\
        Act.get a 5 = .pointer (some ⟨xb, 0, none⟩) /\ a.tmps.size = 49 /\ a.defers = []) ⟨?_, ?_, ?_, ?_, ?_, ?_, ?_, ?_, ?_⟩ ?_
    · simp (disch := first | omega | simp only [Zs]; omega) only [Zo, Ze, Zn, Zq, r1]
    · simp (disch := first | omega | simp only [Zs]; omega) only [Zo, Ze, Zn, Zq, r2]
    · simp (disch := first | omega | simp only [Zs]; omega) only [Zo, Ze, Zn, Zq, r3]
    · simp (disch := first | omega | simp only [Zs]; omega) only [Zo, Ze, Zn, Zq, r16]
    · simp (disch := first | omega | simp only [Zs]; omega) only [Zo, Ze, Zn, Zq, r17]
    · simp (disch := first | omega | simp only [Zs]; omega) only [Zo, Ze, Zn, Zq, r18]
    · simp (disch := first | omega | simp only [Zs]; omega) only [Zo, Ze, Zn, Zq]
    · simp only [Zs]; exact aN
    · simp only [Zd]; exact ad
    rintro a5 ⟨s1, s2, s3, s16, s17, s18, s5, sN, sd⟩
    clear aN ad r1 r2 r3 r16 r17 r18
    -- region 5
    refine region_rlt (l := [_, _, _, _, _]) (tl := [_, _, _]) rfl (Mod none') (Mod.refl wr).drew (fun _ _ _ h h' => h.trans h') [22, 23, 24, 25, 26]
      [fun v _ => v = .pointer (some ⟨b + 2, 3, none⟩), fun v _ => v = lv, fun v _ => v = .agg #[f i 0, f i 1, f i 2, f i 3, f i 4],
       fun v w'' => TreeV w'' (fun k => F k \/ wr.heap.size <= k) v l[i],
       fun v w'' => ∃ nb C, v = .slice (some ⟨nb, 0, none⟩) 1 1 /\ w''.heap[nb]? = some (.cells C TI (0, 0)) /\ C.size = 5 /\ C.all (·.oneCell') = true /\ TreeR w'' (fun k => F k \/ wr.heap.size <= k) (from' C 0) l[i]]
      ?_ rfl (by decide) (by simp [sN]) (by simp) (by kernel_rfl) ⟨?_, ?_, ?_, ?_, ?_, trivial⟩ ?_
    · intro g hg v v1 v2 hv hr
      simp only [List.mem_cons, List.not_mem_nil, or_false] at hg
      rcases hg with rfl | rfl | rfl | rfl | rfl
      · exact hv
      · exact hv
      · exact hv
      · exact TreeV.mod hv hr (fun _ _ f => f) (fun _ h => h)
      · obtain ⟨nb, C, e1, e2, e3, e4, e5⟩ := hv
        exact ⟨nb, C, e1, hr.some e2 (fun f => f), e3, e4, e5.mod hr (fun _ _ f => f) (fun _ h => h)⟩
    · intro a1 v1 hr hs hd
      have t3 := (hs.get 3 (by decide)).trans s3
      exact Zw (Za (o := 3) (by kernel_rfl) (b := b + 2) (o0 := 0) t3) ⟨_, rfl, .refl _, rfl⟩
    · intro a1 v1 hr hs hd
      have d0 : Act.get a1 22 = .pointer (some ⟨b + 2, 3, none⟩) := hd ⟨0, .data⟩ (by simp) rfl
      exact Zw (Zl (by kernel_rfl) (b := b + 2) (o := 3) (v := lv) d0 (by rw [Zc (hr.some hG.h3 (fun f => f))]; rfl)) ⟨_, rfl, .refl _, rfl⟩
    · intro a1 v1 hr hs hd
      have t5 := (hs.get 5 (by decide)).trans s5
      exact Zw (x_loadN (cs := [f i 0, f i 1, f i 2, f i 3, f i 4]) (b := xb) (o := 0) (by kernel_rfl) t5 (range5 fun j hj => by
        rw [Zc (hr.some k1 (fun f => f)), Nat.zero_add]
        have := from5 (f i) j hj
        simp only [from', Nat.zero_add, Array.getD_eq_getD_getElem?] at this
        rw [Array.getElem?_eq_getElem (by simpa using hj)] at this ⊢
        simpa using this)) ⟨_, rfl, .refl _, rfl⟩
    · intro a1 v1 hr hs hd
      have d2 : Act.get a1 24 = .agg #[f i 0, f i 1, f i 2, f i 3, f i 4] := hd ⟨2, .data⟩ (by simp) rfl
      have hih := ihN l[i] (by have := List.sizeOf_lt_of_mem (List.getElem_mem hil); simp only [Tr.mk.sizeOf_spec] at ht; omega) #[f i 0, f i 1, f i 2, f i 3, f i 4] v1 F rfl (((hTr.mod hr (fun _ _ f => f) (fun _ h => h)).congr (from5 (f i))))
      refine owp_call (Zy (by kernel_rfl) rfl) (R := fun e w' => ∃ v, e = .returned v /\ Mod none' v1 w' /\ TreeV w' (fun k => F k \/ v1.heap.size <= k) v l[i]) ?_ ?_
      · have e0 : (#[Operand.tmp 24] : Array Operand).map a1.eval = #[.agg #[f i 0, f i 1, f i 2, f i 3, f i 4]] := by simp [Ze, d2]
        rw [e0]
        exact hih
      · rintro e v2 ⟨v, rfl, hm, hv⟩
        exact ⟨v, rfl, v, rfl, hm, hv.mod (Mod.refl (S := none') v2) (fun _ _ f => f) (fun k hk => hk.imp id fun h => by have := hr.size; omega)⟩
    · intro a1 v1 hr hs hd
      have d3 : TreeV v1 (fun k => F k \/ wr.heap.size <= k) (Act.get a1 25) l[i] := hd ⟨3, .data⟩ (by simp) rfl
      obtain ⟨C, e1, e2, e3, e4⟩ := d3
      refine Zw (x_buildSlice1 (e := TI) (sz := 5) (v := .agg C) (by kernel_rfl) e1 e2) ⟨_, rfl, (Mod.refl v1).alloc _, v1.heap.size, C, rfl, Zh _ _, e2, e3, e4.mod ((Mod.refl v1).alloc (S := none') _) (fun _ _ f => f) (fun _ h => h)⟩
    · intro a1 v1 hr hs hd
      have d1 : Act.get a1 23 = lv := hd 1 (by decide)
      have d4 : ∃ nb C, Act.get a1 26 = .slice (some ⟨nb, 0, none⟩) 1 1 /\ v1.heap[nb]? = some (.cells C TI (0, 0)) /\ C.size = 5 /\ C.all (·.oneCell') = true /\ TreeR v1 (fun k => F k \/ wr.heap.size <= k) (from' C 0) l[i] := hd 4 (by decide)
      obtain ⟨nb, C, d41, d42, d43, d44, d45⟩ := d4
      have hG1 := hG.grow hr
      have hlen : (l.take i).length = i := by rw [List.length_take]; omega
      refine wpl_append (e := TI) (sz := 5) (base := b + 3) (v := lv) (n := i) (xs := lrow) (ad := ⟨nb, 0, none⟩) (m := 1) (c := 1) (news := C.toList) (by kernel_rfl) d1 d41 (hlen ▸ hG1.lo) (by simp [d43]) (fun j u hu => by
          rw [Addr.add_mid, Zc d42, Nat.zero_add]; simpa using hu) (by rw [Array.all_eq_true_iff_forall_mem] at d44; intro u hu; exact d44 u (by simpa using hu)) (by omega) hG1.size ?_
      intro v' v2 ho hmo hnn hnew
      have hbx : lv.ownBlock ≠ some (b + 2) := fun e => by have := (hG1.lo.lt _ e).1; omega
      have hh3 := hmo.some hG1.h3 hbx
      refine Zv rfl (Za (o := 3) (by kernel_rfl) (b := b + 2) (o0 := 0) ?_) ?_
      · simp (disch := first | omega | simp only [Zs]; omega) only [Zo, Ze, Zn, Zq]
        exact (hs.get 3 (by decide)).trans s3
      have hbz : ∀ t, t ∉ [22, 23, 24, 25, 26] -> Act.get a1 t = Act.get a5 t := fun t ht => hs.get t ht
      have sN1 : a1.tmps.size = 49 := hs.size.trans sN
      refine wpl_skip rfl (x_store1 (by kernel_rfl) (b := b + 2) (o := 3) (v := v') (u := lv) ?_ ?_ (ownsRow_one ho) ?_ ?_) (wpList_nil ?_)
      · simp (disch := first | omega | simp only [Zs]; omega) only [Zo, Ze, Zn, Zq]
      · simp (disch := first | omega | simp only [Zs]; omega) only [Zo, Ze, Zn, Zq]
      · rw [Zc hh3]; rfl
      · exact Zz hh3
      have hpush := hG1.push (by rw [hb]; exact hFlt) hb.symm hmo (by rw [hlen]; exact ho) (by simp [d43]) hnew (t := l[i]) (by
        have hlt := hG.lo.lt
        refine (d45.congr (fun j hj => ?_)).mod (Mod.refl (S := none') v1) (fun _ _ f => f) (fun k hk => ?_)
        · simp [from']
        · rcases hk with hk | hk
          · exact .inl hk
          · refine .inr ⟨by omega, fun e => ?_, fun e => by cases e⟩
            have := (hlt k e).2
            omega)
      rw [show l.take i ++ [l[i]] = l.take (i + 1) by simp] at hpush
      obtain ⟨v3, hv3⟩ : ∃ v3, v3 = v2.setCell ⟨b + 2, 3, none⟩ v' := ⟨_, rfl⟩
      rw [<- hv3] at hpush ⊢
      clear hv3
      simp only [Exit.then, Exit.inBlock]
      refine wp_region_lit (Zv rfl (x_add (k := .i64) (m := (i : Nat)) (n := 1) ?_ rfl) (Zv rfl Zm (wpList_nil ?_)))
      · simp (disch := first | omega | simp only [Zs]; omega) only [Zo, Ze, Zn, Zq, hbz 18 (by decide)]
        exact s18
      have hwrap : IntKind.i64.wrap ((i : Int) + 1) = ((i + 1 : Nat) : Int) := by rw [IntKind.wrap_i64]; omega
      refine ⟨⟨?_, ?_, ?_, ?_, ?_, ?_, ?_, i + 1, by omega, ?_, v', lrow ++ C.toList, hpush⟩, ?_⟩
      · simp only [Zs]; exact sN1
      · simp only [Zd]; exact hs.defers.trans sd
      · simp (disch := first | omega | simp only [Zs]; omega) only [Zo, Ze, Zn, Zq, hbz 1 (by decide), s1]
      · simp (disch := first | omega | simp only [Zs]; omega) only [Zo, Ze, Zn, Zq, hbz 2 (by decide), s2]
      · simp (disch := first | omega | simp only [Zs]; omega) only [Zo, Ze, Zn, Zq, hbz 3 (by decide), s3]
      · simp (disch := first | omega | simp only [Zs]; omega) only [Zo, Ze, Zn, Zq, hbz 16 (by decide), s16]
      · simp (disch := first | omega | simp only [Zs]; omega) only [Zo, Ze, Zn, Zq, hbz 17 (by decide), s17]
      · simp (disch := first | omega | simp only [Zs]; omega) only [Zo, Ze, Zn, Zq]
        rw [hwrap]
      · simp (disch := first | omega | simp only [Zs]; omega) only [Zo, Ze, Zn, Zq]
        rw [hwrap, r18']
        simp only [ldN, Int.toNat_natCast]
        omega
end Go.Proofs.YtmehfgiadapekaaGreat
