/-
  spec.Fit: a tree is cut to what fits a message.
-/
import Derived.Test.YtmehfgiadapekaaGreatPZi
import Derived.Test.YtmehfgiadapekaaGreatPZj
import Derived.Test.YtmehfgiadapekaaGreatPZn
set_option linter.unusedSimpArgs false
set_option linter.unusedVariables false
namespace Go.Proofs.YtmehfgiadapekaaGreat
open Go Go.RowKit
theorem fitsW_append : ∀ (a b : List FD) (j : Nat) (ver : Int) (t : Tr), fitsW (a ++ b) j ver t = fitsW a j ver t ++ fitsW b (j + a.length) ver t
 | [], b, j, ver, t => by simp [fitsW]
 | f :: r, b, j, ver, t => by
  simp only [List.cons_append, fitsW, List.length_cons, List.cons.injEq, true_and]
  rw [fitsW_append r b (j + 1) ver t, show j + 1 + r.length = j + (r.length + 1) by omega]
theorem fitsW_take {fs : List FD} {i : Nat} {ver : Int} {t : Tr} (hi : i < fs.length) : fitsW (fs.take (i + 1)) 0 ver t = fitsW (fs.take i) 0 ver t ++ [fitW fs[i] ver (t.L.getD i .zero)] := by
 rw [List.take_succ_eq_append_getElem hi, fitsW_append]
 simp [fitsW, Nat.min_eq_left (Nat.le_of_lt hi)]
/-- a row is not touched by what is made later -/
theorem RowG.later {α : Type} {Rl : World -> (Nat -> Prop) -> (Nat -> Value) -> α -> Prop} {e sz B : Nat} {F S : Nat -> Prop} {w w' : World} {lv : Value} {lrow : List Value} {ld : List α} (hok : RlOk Rl sz) (h : RowG Rl e sz B F w lv lrow ld) (hm : Mod S w w') (hs : ∀ k, k < w.heap.size -> S k -> ¬ F k /\ k < B) : RowG Rl e sz B F w' lv lrow ld := by
 have hsz := hm.size
 refine ⟨ownsRow_mod h.own hm (fun k hk e => ?_), fun i hi => hok.mod (h.els i hi) hm (fun k hk e => ?_) (fun k hk => ⟨hk.1, hk.2.1, by have := hk.2.2; omega⟩)⟩
 ·have h1 := h.own.lt k hk
  have := (hs k h1.2 e).2
  omega
 ·obtain ⟨h1, h2⟩ := hs k hk.2.2 e
  rcases hk.1 with h3 | h3
  ·exact h1 h3
  ·omega
theorem zeroTree : zeroOf Tryz.prog 26 = some (.agg #[.int .i64 0, .slice none 0 0, .bool false, .slice none 0 0, .slice none 0 0]) := by kernel_rfl
theorem builtTree : Tryz.prog.built 26 [] = some #[.int .i64 0, .slice none 0 0, .bool false, .slice none 0 0, .slice none 0 0] := by kernel_rfl
abbrev zT : Array Value := #[.int .i64 0, .slice none 0 0, .bool false, .slice none 0 0, .slice none 0 0]
/-- what fitted says of a field -/
def FitOk (f : FD) : Prop := ∀ (w0 w : World) (sv : Value) (cs : Array Value) (t : Tr) (ver : Int), Mod none' w0 w -> FdsI w0 sv f.sub -> cs.size = 5 -> TreeI w0 (from' cs 0) t ->
 Calls Tryz.prog 24 #[.agg (f.cells sv), .int .i64 ver, .agg cs] w fun e w' => ∃ v, e = .returned v /\ Mod none' w w' /\ TreeV w' (fun k => k < w0.heap.size \/ w.heap.size <= k) v (fitW f ver t)
/-- slots that stay in Fit -/
structure FitA (fv : Value) (ver : Int) (b5 b6 b7 : Nat) (a : Act) : Prop where
 size : a.tmps.size = 54
 defers : a.defers = []
 g0 : Act.get a 0 = fv
 g1 : Act.get a 1 = .int .i64 ver
 g5 : Act.get a 5 = .pointer (some ⟨b5, 0, none⟩)
 g6 : Act.get a 6 = .pointer (some ⟨b6, 0, none⟩)
 g7 : Act.get a 7 = .pointer (some ⟨b7, 0, none⟩)
theorem FitA.put {fv : Value} {ver : Int} {b5 b6 b7 : Nat} {a : Act} (h : FitA fv ver b5 b6 b7 a) {t : Nat} (ht : 8 <= t) (v : Value) : FitA fv ver b5 b6 b7 (a.put (some t) v) :=
 ⟨(Zs _ _ _).trans h.size, (Zd _ _ _).trans h.defers, (Zn (by omega)).trans h.g0, (Zn (by omega)).trans h.g1, (Zn (by omega)).trans h.g5, (Zn (by omega)).trans h.g6, (Zn (by omega)).trans h.g7⟩
theorem FitA.same {fv : Value} {ver : Int} {b5 b6 b7 : Nat} {a a' : Act} (h : FitA fv ver b5 b6 b7 a) {S : Nat -> Prop} (hs : SameBut S a a') (hS : ∀ t, S t -> 8 <= t) : FitA fv ver b5 b6 b7 a' :=
 have q : ∀ t, t < 8 -> Act.get a' t = Act.get a t := fun t ht => hs.get t (fun e => by have := hS t e; omega)
 ⟨hs.size.trans h.size, hs.defers.trans h.defers, (q 0 (by decide)).trans h.g0, (q 1 (by decide)).trans h.g1, (q 5 (by decide)).trans h.g5, (q 6 (by decide)).trans h.g6, (q 7 (by decide)).trans h.g7⟩
set_option maxRecDepth 100000 in
set_option maxHeartbeats 4000000 in
theorem fit_c {w0 w : World} {fv : Value} {fs : List FD} {cs : Array Value} {t : Tr} {ver : Int} (hfs : ∀ f ∈ fs, f.tag < 0 /\ FitOk f) (hlen : fs.length <= 1000) (hm0 : Mod none' w0 w) (hf : FdsI w0 fv fs) (hcs : cs.size = 5) (hT : TreeI w0 (from' cs 0) t) :
  Calls Tryz.prog 12 #[fv, .int .i64 ver, .agg cs] w fun e w' => ∃ v, e = .returned v /\ Mod none' w w' /\ TreeV w' (fun k => k < w0.heap.size \/ w.heap.size <= k) v (.mk 0 [] false (fitsW fs 0 ver t) (cutW (unkW t.U))) := by
 obtain ⟨ao, cap, hfv⟩ := hf.slice
 refine calls_of_wp Tryz.func12 rfl ?_
 rw [Tryz.ntmps12]
 refine wp_act (fun a : Act => Act.get a 0 = fv /\ Act.get a 1 = .int .i64 ver /\ Act.get a 2 = .agg cs /\ a.tmps.size = 54 /\ a.defers = []) ⟨by rw [Zj _ _ _ (by simp)]; rfl, by rw [Zj _ _ _ (by simp)]; rfl, by rw [Zj _ _ _ (by simp)]; rfl, by simp, rfl⟩ ?_
 rintro a ⟨a0, a1, a2, aN, ad⟩
 refine wp_seq (wp_region_lit (Zv rfl x_box (Zv rfl (x_alloc zeroTree) (wpList_nil ?_))))
 rw [show a.eval (.tmp 2) = .agg cs from a2]
 obtain ⟨r1, m1⟩ := box_tree (w := w) (cs := cs) 26
 have z1 : (w.alloc (.cells (Value.agg cs).cells 26)).heap.size = w.heap.size + 1 := by simp
 obtain ⟨b5, hb5⟩ : ∃ b, b = w.heap.size := ⟨_, rfl⟩
 rw [<- hb5] at r1 ⊢
 generalize w.alloc (.cells (Value.agg cs).cells 26) = w1 at *
 have r2 := Zh w1 (.cells zT 26)
 have m2 : Mod none' w1 (w1.alloc (.cells zT 26)) := (Mod.refl w1).alloc _
 have z2 : (w1.alloc (.cells zT 26)).heap.size = w1.heap.size + 1 := by simp
 obtain ⟨b6, hb6⟩ : ∃ b, b = w1.heap.size := ⟨_, rfl⟩
 rw [<- hb6] at r2 ⊢
 change Code.wp _ _ _ _ (w1.alloc (.cells zT 26))
 generalize w1.alloc (.cells zT 26) = w2 at *
 refine wp_act (fun b : Act => Act.get b 0 = fv /\ Act.get b 1 = .int .i64 ver /\ Act.get b 5 = .pointer (some ⟨b5, 0, none⟩) /\ Act.get b 6 = .pointer (some ⟨b6, 0, none⟩) /\ b.tmps.size = 54 /\ b.defers = []) ⟨by simp (disch := first | omega | simp only [Zs]; omega) only [Zo, Ze, Zn, Zq, a0], by simp (disch := first | omega | simp only [Zs]; omega) only [Zo, Ze, Zn, Zq, a1], by simp (disch := first | omega | simp only [Zs]; omega) only [Zo, Ze, Zn, Zq], by simp (disch := first | omega | simp only [Zs]; omega) only [Zo, Ze, Zn, Zq], by simp only [Zs]; exact aN, by simp only [Zd]; exact ad⟩ ?_
 clear a0 a1 a2 aN ad
 rintro a ⟨a0, a1, a5, a6, aN, ad⟩
 -- the tree that is made
 refine wp_seq (wp_region_lit (Zv rfl (x_build (cells := zT) (by simpa using builtTree)) (Zv rfl (x_alloc zeroTree) ?_)))
 have r3 := Zh w2 (.cells zT 26)
 have m3 : Mod none' w2 (w2.alloc (.cells zT 26)) := (Mod.refl w2).alloc _
 have z3 : (w2.alloc (.cells zT 26)).heap.size = w2.heap.size + 1 := by simp
 obtain ⟨b7, hb7⟩ : ∃ b, b = w2.heap.size := ⟨_, rfl⟩
 rw [<- hb7] at r3 ⊢
 change wpList _ _ _ _ _ (w2.alloc (.cells zT 26))
 generalize w2.alloc (.cells zT 26) = w3 at *
 refine wpl_skip rfl (x_storeN (cs := zT) (b := b7) (o := 0) (by kernel_rfl) ?_ ?_ (by kernel_rfl) ?_) (wpList_nil ?_)
 ·simp (disch := first | omega | simp only [Zs]; omega) only [Zo, Ze, Zn, Zq]
 ·simp (disch := first | omega | simp only [Zs]; omega) only [Zo, Ze, Zn, Zq]
 ·intro j hj
  have hj5 : j < 5 := hj
  rw [Zc r3, Zz r3, Nat.zero_add]
  rcases (by omega : j = 0 \/ j = 1 \/ j = 2 \/ j = 3 \/ j = 4) with rfl | rfl | rfl | rfl | rfl <;> exact ⟨rfl, rfl⟩
 have k3 := put_tree (cs := zT) r3 rfl
 have p3 := mod_setCells b7 w3 0 (zT : Array Value).toList
 have m34 : Mod none' w2 (w3.setCells b7 0 (zT : Array Value).toList) := m3.trans' p3 (fun _ _ f => f) (fun i hi e => by have e' : i = b7 := e; omega)
 generalize w3.setCells b7 0 (zT : Array Value).toList = w4 at *
 have hm12 := m1.trans m2
 have m04 : Mod none' w w4 := hm12.trans m34
 have m004 : Mod none' w0 w4 := hm0.trans m04
 have h5 : w4.heap[b5]? = some (.cells cs 26 (0, 0)) := (m2.trans m34).some r1 (fun f => f)
 have h6 : w4.heap[b6]? = some (.cells zT 26 (0, 0)) := m34.some r2 (fun f => f)
 have hs0 := hm0.size
 have hb74 := lt_of_block k3
 obtain ⟨B, hB⟩ : ∃ b, b = w4.heap.size := ⟨_, rfl⟩
 refine wp_act (fun b : Act => FitA fv ver b5 b6 b7 b) ?_ ?_
 ·rw [Zo]
  exact ⟨by simp only [Zs]; exact aN, by simp only [Zd]; exact ad, by simp (disch := first | omega | simp only [Zs]; omega) only [Zo, Ze, Zn, Zq, a0], by simp (disch := first | omega | simp only [Zs]; omega) only [Zo, Ze, Zn, Zq, a1], by simp (disch := first | omega | simp only [Zs]; omega) only [Zo, Ze, Zn, Zq, a5], by simp (disch := first | omega | simp only [Zs]; omega) only [Zo, Ze, Zn, Zq, a6], by simp (disch := first | omega | simp only [Zs]; omega) only [Zo, Ze, Zn, Zq]⟩
 clear a0 a1 a5 a6 aN ad a
 intro a hA
 -- field by field
 refine wp_seq (wp_mono (Q := fun e a' w' => e = .normal /\ FitA fv ver b5 b6 b7 a' /\ Mod (TbM b7 B) w4 w' /\ ∃ C, TbS TreeR 26 5 3 B (fun k => k < w0.heap.size) b7 C w' (fitsW fs 0 ver t) /\ C[0]? = some (.int .i64 0) /\ C[1]? = some (.slice none 0 0) /\ C[2]? = some (.bool false) /\ C[4]? = some (.slice none 0 0)) ?_ ?_)
 ·refine wp_seq (wp_region_lit (Zv rfl (x_moveV hA.g0) (Zv rfl (x_len (by kernel_rfl) rfl (ao := ao) (cap := cap) (n := fs.length) ?_) (Zv rfl Zm (wpList_nil ?_)))))
  ·rw [Ze, Zq (by have := hA.size; omega), hfv]
  have hAN := hA.size
  refine wp_for2 (fun m a' w' => ∃ q, q + m = fs.length /\ FitA fv ver b5 b6 b7 a' /\ Act.get a' 13 = fv /\ Act.get a' 14 = .int .i64 fs.length /\ Act.get a' 15 = .int .i64 q /\ Mod (TbM b7 B) w4 w' /\ ∃ C, TbS TreeR 26 5 3 B (fun k => k < w0.heap.size) b7 C w' (fitsW (fs.take q) 0 ver t) /\ C[0]? = some (.int .i64 0) /\ C[1]? = some (.slice none 0 0) /\ C[2]? = some (.bool false) /\ C[4]? = some (.slice none 0 0))
   (fun m a' w' => ∃ q, q + m + 1 = fs.length /\ FitA fv ver b5 b6 b7 a' /\ Act.get a' 13 = fv /\ Act.get a' 14 = .int .i64 fs.length /\ Act.get a' 15 = .int .i64 q /\ Mod (TbM b7 B) w4 w' /\ ∃ C, TbS TreeR 26 5 3 B (fun k => k < w0.heap.size) b7 C w' (fitsW (fs.take q) 0 ver t) /\ C[0]? = some (.int .i64 0) /\ C[1]? = some (.slice none 0 0) /\ C[2]? = some (.bool false) /\ C[4]? = some (.slice none 0 0))
   (fun m a' w' => ∃ q, q + m + 1 = fs.length /\ FitA fv ver b5 b6 b7 a' /\ Act.get a' 13 = fv /\ Act.get a' 14 = .int .i64 fs.length /\ Act.get a' 15 = .int .i64 q /\ Mod (TbM b7 B) w4 w' /\ ∃ C, TbS TreeR 26 5 3 B (fun k => k < w0.heap.size) b7 C w' (fitsW (fs.take (q + 1)) 0 ver t) /\ C[0]? = some (.int .i64 0) /\ C[1]? = some (.slice none 0 0) /\ C[2]? = some (.bool false) /\ C[4]? = some (.slice none 0 0)) fs.length
   ⟨0, by omega, ((hA.put (by decide) _).put (by decide) _).put (by decide) _, by simp (disch := first | omega | simp only [Zs]; omega) only [Zo, Ze, Zn, Zq], by simp (disch := first | omega | simp only [Zs]; omega) only [Zo, Ze, Zn, Zq], by simp (disch := first | omega | simp only [Zs]; omega) only [Zo, Ze, Zn, Zq]; rfl, Mod.refl _, zT, ⟨⟨_, k3⟩, rfl, ⟨_, [], rfl, by simp only [List.take_zero, fitsW]; exact RowG.nil _⟩, by omega, by omega, fun k hk => by omega, by decide⟩, rfl, rfl, rfl, rfl⟩ ?_ ?_ ?_
  ·rintro m a1 w5 ⟨q, hq, hA1, g13, g14, g15, hm5, C, hTb, hC⟩
   have hN1 := hA1.size
   refine wp_region_lit (Zv rfl (x_lss (k := .i64) (m := (q : Nat)) (n := (fs.length : Nat)) (by rw [Ze, g15]) (by rw [Ze, g14])) (wpList_nil ⟨rfl, ?_⟩))
   rw [Zq (by omega)]
   cases m with
   | zero =>
    right
    have hqe : q = fs.length := by omega
    rw [hqe, List.take_length] at hTb
    exact ⟨by congr 1; simp; omega, rfl, hA1.put (by decide) _, hm5, C, hTb, hC⟩
   | succ m =>
    left
    exact ⟨m, rfl, by congr 1; simp; omega, q, by omega, hA1.put (by decide) _, by simp (disch := first | omega | simp only [Zs]; omega) only [Zo, Ze, Zn, Zq, g13], by simp (disch := first | omega | simp only [Zs]; omega) only [Zo, Ze, Zn, Zq, g14], by simp (disch := first | omega | simp only [Zs]; omega) only [Zo, Ze, Zn, Zq, g15], hm5, C, hTb, hC⟩
  ·rintro m a1 w5 ⟨q, hq, hA1, g13, g14, g15, hm5, C, hTb, hC0, hC1, hC2, hC4⟩
   have hN1 := hA1.size
   have hql : q < fs.length := by omega
   rw [hfv] at hf
   obtain ⟨_, k, off, sa, sn, sc, rfl, C', T', fr', hk', hcells, hsub⟩ := hf.at' hql
   rw [<- hfv] at hf
   have hkl := lt_of_block hk'
   have hk5 : w5.heap[k]? = some (.cells C' T' fr') := hm5.some (m004.some hk' (fun f => f)) (fun e => by rcases e with e | e <;> omega)
   obtain ⟨fd, hfd⟩ : ∃ fd, fd = fs[q] := ⟨_, rfl⟩
   rw [<- hfd] at hcells hsub
   have hlen8 : (fd.cells (.slice sa sn sc)).toList.length = 8 := rfl
   refine wp_seq (wp_region_lit (Zv rfl Zm (Zv rfl (Zx (sz := 8) (i := q) (b := k) (o := off) (n := fs.length) (cap := cap) (k := .i64) (by kernel_rfl) ?_ ?_ hql) (Zv rfl (x_loadN (cs := (fd.cells (.slice sa sn sc)).toList) (b := k) (o := off + q * 8) (by rw [hlen8]; kernel_rfl) ?_ (fun j v hv => by rw [Zc hk5]; exact hcells j v hv)) (Zv rfl (x_alloc zeroField) (Zv rfl Zi ?_))))))
   ·simp (disch := first | omega | simp only [Zs]; omega) only [Zo, Ze, Zn, Zq, g13, hfv]
   ·simp (disch := first | omega | simp only [Zs]; omega) only [Zo, Ze, Zn, Zq, g15]
   ·simp (disch := first | omega | simp only [Zs]; omega) only [Zo, Ze, Zn, Zq]
   have n1 := Zh w5 (.cells (Value.agg #[.int .i64 0, .int .i64 0, .int .i64 0, .int .i64 0, .int .i64 0, .int .i64 0, .int .i64 0, .slice none 0 0]).cells 51)
   have n2 : Mod none' w5 (w5.alloc (.cells (Value.agg #[.int .i64 0, .int .i64 0, .int .i64 0, .int .i64 0, .int .i64 0, .int .i64 0, .int .i64 0, .slice none 0 0]).cells 51)) := (Mod.refl w5).alloc _
   generalize w5.alloc (.cells (Value.agg #[.int .i64 0, .int .i64 0, .int .i64 0, .int .i64 0, .int .i64 0, .int .i64 0, .int .i64 0, .slice none 0 0]).cells 51) = w6 at *
   obtain ⟨b9, hb9⟩ : ∃ b, b = w5.heap.size := ⟨_, rfl⟩
   rw [<- hb9] at n1 ⊢
   refine wpl_skip rfl (x_storeN (cs := fd.cells (.slice sa sn sc)) (b := b9) (o := 0) (by kernel_rfl) ?_ ?_ (by simp [FD.cells, Value.oneCell']) ?_) (wpList_nil ?_)
   ·simp (disch := first | omega | simp only [Zs]; omega) only [Zo, Ze, Zn, Zq]
   ·simp (disch := first | omega | simp only [Zs]; omega) only [Zo, Ze, Zn, Zq]
   ·intro j hj
    have hj8 : j < 8 := hj
    rw [Zc n1, Zz n1, Nat.zero_add]
    rcases (by omega : j = 0 \/ j = 1 \/ j = 2 \/ j = 3 \/ j = 4 \/ j = 5 \/ j = 6 \/ j = 7) with rfl | rfl | rfl | rfl | rfl | rfl | rfl | rfl <;> exact ⟨rfl, rfl⟩
   have k9 := put_tree (cs := fd.cells (.slice sa sn sc)) n1 rfl
   have p9 := mod_setCells b9 w6 0 (fd.cells (.slice sa sn sc)).toList
   have hm57 : Mod none' w5 (w6.setCells b9 0 (fd.cells (.slice sa sn sc)).toList) := n2.trans' p9 (fun _ _ f => f) (fun i hi e => by have e' : i = b9 := e; omega)
   generalize w6.setCells b9 0 (fd.cells (.slice sa sn sc)).toList = w7 at *
   refine wp_act (fun b : Act => FitA fv ver b5 b6 b7 b /\ Act.get b 8 = .int .i64 (q : Nat) /\ Act.get b 9 = .pointer (some ⟨b9, 0, none⟩) /\ Act.get b 13 = fv /\ Act.get b 14 = .int .i64 fs.length /\ Act.get b 15 = .int .i64 q) ⟨?_, by simp (disch := first | omega | simp only [Zs]; omega) only [Zo, Ze, Zn, Zq, g15], by simp (disch := first | omega | simp only [Zs]; omega) only [Zo, Ze, Zn, Zq], by simp (disch := first | omega | simp only [Zs]; omega) only [Zo, Ze, Zn, Zq, g13], by simp (disch := first | omega | simp only [Zs]; omega) only [Zo, Ze, Zn, Zq, g14], by simp (disch := first | omega | simp only [Zs]; omega) only [Zo, Ze, Zn, Zq, g15]⟩ ?_
   ·rw [Zo]
    exact ((((hA1.put (by decide) _).put (by decide) _).put (by decide) _).put (by decide) _).put (by decide) _
   rintro b ⟨hAb, c8, c9, c13, c14, c15⟩
   have m05 : Mod none' w0 w5 := m004.trans' hm5 (fun _ _ f => f) (fun i hi e => by rcases e with e | e <;> omega)
   have h57 : w7.heap[b5]? = some (.cells cs 26 (0, 0)) := hm57.some (hm5.some h5 (fun e => by rcases e with e | e <;> omega)) (fun f => f)
   have hok := (hfs fd (by rw [hfd]; exact List.getElem_mem hql)).2
   have hsz5 := hm5.size
   refine wp_mono (fit_add (w0 := w0) (blk := b7) (B := B) (b5 := b5) (b9 := b9) (i := q) (f := fd) (sv := .slice sa sn sc) (ver := ver) (ct := cs) (t := t) (ti := t.L.getD q .zero) (y := fitW fd ver (t.L.getD q .zero)) hAb.size hAb.g7 (hTb.new treeR_ok hm57) (m05.trans hm57) (by rw [fitsW_length]; simp; omega) hAb.g1 hAb.g5 c8 c9 h57 k9 (by omega) (fun k' lv hlv hk' => by
    obtain ⟨lv2, lrow2, e1, e2⟩ := hTb.row
    rw [hlv] at e1
    have := Option.some.inj e1
    rw [<- this] at e2
    have := e2.own.lt k' hk'
    omega) hcs hT rfl (fun W cs' hW hc5 hTW => hok w0 W _ cs' _ ver hW hsub hc5 hTW)) ?_
   rintro e c w8 ⟨rfl, hsb, hm8, v', hTb'⟩
   refine ⟨rfl, q, hq, hAb.same hsb (fun t ht => ?_), (hsb.get 13 (by decide)).trans c13, (hsb.get 14 (by decide)).trans c14, (hsb.get 15 (by decide)).trans c15, (hm5.trans (hm57.mono fun _ _ f => f.elim)).trans hm8, C.setIfInBounds (0 + 3) v', ?_, ?_, ?_, ?_, ?_⟩
   ·simp only [List.mem_cons, List.not_mem_nil, or_false] at ht; omega
   ·rw [fitsW_take hql, <- hfd]; exact hTb'
   ·rw [Array.getElem?_setIfInBounds_ne (by decide)]; exact hC0
   ·rw [Array.getElem?_setIfInBounds_ne (by decide)]; exact hC1
   ·rw [Array.getElem?_setIfInBounds_ne (by decide)]; exact hC2
   ·rw [Array.getElem?_setIfInBounds_ne (by decide)]; exact hC4
  ·rintro m a1 w5 ⟨q, hq, hA1, g13, g14, g15, hm5, C, hTb, hC⟩
   have hN1 := hA1.size
   refine wp_region_lit (Zv rfl (x_add (k := .i64) (m := (q : Nat)) (n := 1) (by rw [Ze, g15]) rfl) (Zv rfl Zm (wpList_nil ⟨rfl, q + 1, by omega, (hA1.put (by decide) _).put (by decide) _, by simp (disch := first | omega | simp only [Zs]; omega) only [Zo, Ze, Zn, Zq, g13], by simp (disch := first | omega | simp only [Zs]; omega) only [Zo, Ze, Zn, Zq, g14], ?_, hm5, C, hTb, hC⟩)))
   simp (disch := first | omega | simp only [Zs]; omega) only [Zo, Ze, Zn, Zq]
   congr 1
   rw [IntKind.wrap_i64]; omega
 rintro e a1 w5 ⟨rfl, hA1, hm5, C, hTb, hC0, hC1, hC2, hC4⟩
 -- the tags that are unknown
 obtain ⟨sv, lv0, uv, f0, g0, hce, hn0, hS0, hL0, hLs0, hE0, hEs0⟩ := tree_cells hT hcs
 have m05 : Mod none' w0 w5 := m004.trans' hm5 (fun _ _ f => f) (fun i hi e => by rcases e with e | e <;> omega)
 have h55 : w5.heap[b5]? = some (.cells cs 26 (0, 0)) := hm5.some h5 (fun e => by rcases e with e | e <;> omega)
 have hsz5 := hm5.size
 have hAN1 := hA1.size
 obtain ⟨u, hu⟩ : ∃ u, u = unkW t.U := ⟨_, rfl⟩
 have huok := unk_ok t.U (TreeI.keys hT)
 rw [<- hu] at huok ⊢
 have hul : u.length <= 32767 := huok.2.1
 refine wp_seq (wp_mono (Q := fun e a' w' => e = .normal /\ FitA fv ver b5 b6 b7 a' /\ Mod (TbM b7 B) w4 w' /\ ∃ C B2, TbS TreeR 26 5 3 B (fun k => k < w0.heap.size) b7 C w' (fitsW fs 0 ver t) /\ TbS TagR 63 2 4 B2 (fun k => k < w0.heap.size) b7 C w' (cutW u) /\ B <= B2 /\ C[0]? = some (.int .i64 0) /\ C[1]? = some (.slice none 0 0) /\ C[2]? = some (.bool false)) ?_ ?_)
 ·refine wp_seq (wp_region_lit (Zv rfl (x_moveV hA1.g0) (Zv rfl (Za (show fieldOff Tryz.prog 26 4 = some 4 by kernel_rfl) (b := b5) (o0 := 0) ?_) (Zv rfl (Zl (by kernel_rfl) (b := b5) (o := 0 + 4) (v := uv) ?_ (by rw [Zc h55, hce]; rfl)) (wpl_call rfl (Zy (by kernel_rfl) rfl) (R := fun e w' => ∃ rv g, e = .returned rv /\ Mod none' w5 w' /\ ElemsI w' rv u.length 2 g /\ (∀ k, rv.ownBlock = some k -> w5.heap.size <= k) /\ ∀ i (h : i < u.length), g i 0 = .int .u32 (u[i]).1 /\ 0 <= (u[i]).1 /\ (u[i]).1 < 4294967296 /\ OctI w0 (g i 1) (u[i]).2) ?_ ?_)))))
  ·rw [Ze, Zn (by decide)]; exact hA1.g5
  ·simp (disch := first | omega | simp only [Zs]; omega) only [Zo, Ze, Zn, Zq]
  ·rw [show ∀ a : Act, (#[Operand.tmp 32, .tmp 34] : Array Operand).map a.eval = #[Act.get a 32, Act.get a 34] from fun a => by simp [Ze]]
   simp (disch := first | omega | simp only [Zs]; omega) only [Zo, Ze, Zn, Zq]
   have hE5 := hE0.mod m05
   have := unknown_d (w00 := w0) (w0 := w5) (v := fv) (uv := uv) (fs := fs) (U := t.U) (g := g0) (hf.mod m05) (fun f h => (hfs f h).1) hE5 (fun i hi => by
    obtain ⟨q1, q2, q3⟩ := hEs0 i hi
    simp [fits, IntKind.min, IntKind.max, IntKind.signed, IntKind.bits] at q2
    exact ⟨q1, by omega, by omega, q3⟩)
   rw [<- hu] at this
   exact this
  rintro e w6 ⟨rv, g, rfl, hm56, hE, hrv, hg⟩
  obtain ⟨ra, rc, hrvs⟩ := hE.slice
  refine ⟨_, rfl, Zv rfl (x_len (by kernel_rfl) rfl (ao := ra) (cap := rc) (n := u.length) ?_) (Zv rfl Zm (wpList_nil ?_))⟩
  ·simp (disch := first | omega | simp only [Zs]; omega) only [Zo, Ze, Zn, Zq, hrvs]
  refine wp_act (fun b : Act => FitA fv ver b5 b6 b7 b /\ Act.get b 35 = rv /\ Act.get b 36 = .int .i64 (u.length : Nat) /\ Act.get b 37 = .int .i64 (0 : Nat)) ⟨(((((hA1.put (by decide) _).put (by decide) _).put (by decide) _).put (by decide) _).put (by decide) _).put (by decide) _, by simp (disch := first | omega | simp only [Zs]; omega) only [Zo, Ze, Zn, Zq], by simp (disch := first | omega | simp only [Zs]; omega) only [Zo, Ze, Zn, Zq], by simp (disch := first | omega | simp only [Zs]; omega) only [Zo, Ze, Zn, Zq]; rfl⟩ ?_
  clear hA1 hAN1
  rintro a1 ⟨hA1, s35, s36, s37⟩
  have hTb6 := hTb.new treeR_ok hm56
  obtain ⟨lv, lrow, hC3, hG6⟩ := hTb6.row
  obtain ⟨T7, hb7h⟩ := hTb6.heap
  obtain ⟨l1, l2, l3, l4⟩ := hTb6.lo
  obtain ⟨B2, hB2⟩ : ∃ b, b = w6.heap.size := ⟨_, rfl⟩
  have hsz56 := hm56.size
  have hb72 : b7 < B2 := by have := lt_of_block hb7h; omega
  have hTg0 : TbS TagR 63 2 4 B2 (fun k => k < w0.heap.size) b7 C w6 (cutW (u.take 0)) := ⟨⟨_, hb7h⟩, hTb6.size, ⟨_, [], hC4, RowG.nil _⟩, hb72, by omega, l3, by decide⟩
  have hfin : ∀ (C' : Array Value) (w' : World), Mod (TbM b7 B2) w6 w' -> C'[3]? = C[3]? -> TbS TagR 63 2 4 B2 (fun k => k < w0.heap.size) b7 C' w' (cutW u) -> TbS TreeR 26 5 3 B (fun k => k < w0.heap.size) b7 C' w' (fitsW fs 0 ver t) := fun C' w' hm h3 hg => by
   have := hm.size
   exact ⟨hg.heap, hg.size, ⟨lv, lrow, h3.trans hC3, hG6.later treeR_ok hm (fun k hk e => by
    rcases e with e | e
    ·subst e; exact ⟨fun h => by have := l3 _ h; omega, l1⟩
    ·omega)⟩, l1, by omega, l3, by decide⟩
  have hTM : ∀ w', Mod (TbM b7 B2) w6 w' -> Mod (TbM b7 B) w4 w' := fun w' hm => (hm5.trans (hm56.mono fun _ _ f => f.elim)).trans (hm.mono fun k _ e => by
   rcases e with e | e
   ·exact .inl e
   ·exact .inr (by omega))
  refine wp_for2 (fun m a' w' => ∃ q, q + m = u.length /\ FitA fv ver b5 b6 b7 a' /\ Act.get a' 35 = rv /\ Act.get a' 36 = .int .i64 (u.length : Nat) /\ Act.get a' 37 = .int .i64 (q : Nat) /\ Mod (TbM b7 B2) w6 w' /\ ∃ C', TbS TagR 63 2 4 B2 (fun k => k < w0.heap.size) b7 C' w' (cutW (u.take q)) /\ C'[0]? = some (.int .i64 0) /\ C'[1]? = some (.slice none 0 0) /\ C'[2]? = some (.bool false) /\ C'[3]? = C[3]?)
   (fun m a' w' => ∃ q, q + m + 1 = u.length /\ FitA fv ver b5 b6 b7 a' /\ Act.get a' 35 = rv /\ Act.get a' 36 = .int .i64 (u.length : Nat) /\ Act.get a' 37 = .int .i64 (q : Nat) /\ Mod (TbM b7 B2) w6 w' /\ ∃ C', TbS TagR 63 2 4 B2 (fun k => k < w0.heap.size) b7 C' w' (cutW (u.take q)) /\ C'[0]? = some (.int .i64 0) /\ C'[1]? = some (.slice none 0 0) /\ C'[2]? = some (.bool false) /\ C'[3]? = C[3]?)
   (fun m a' w' => ∃ q, q + m + 1 = u.length /\ FitA fv ver b5 b6 b7 a' /\ Act.get a' 35 = rv /\ Act.get a' 36 = .int .i64 (u.length : Nat) /\ Act.get a' 37 = .int .i64 (q : Nat) /\ Mod (TbM b7 B2) w6 w' /\ ∃ C', TbS TagR 63 2 4 B2 (fun k => k < w0.heap.size) b7 C' w' (cutW (u.take (q + 1))) /\ C'[0]? = some (.int .i64 0) /\ C'[1]? = some (.slice none 0 0) /\ C'[2]? = some (.bool false) /\ C'[3]? = C[3]?) u.length
   ⟨0, by omega, hA1, s35, s36, s37, Mod.refl _, C, hTg0, hC0, hC1, hC2, rfl⟩ ?_ ?_ ?_
  ·rintro m a2 w7 ⟨q, hq, hA2, g35, g36, g37, hm7, C', hTg, hC'0, hC'1, hC'2, hC'3⟩
   have hN2 := hA2.size
   refine wp_region_lit (Zv rfl (x_lss (k := .i64) (m := (q : Nat)) (n := (u.length : Nat)) (by rw [Ze, g37]) (by rw [Ze, g36])) (wpList_nil ⟨rfl, ?_⟩))
   rw [Zq (by omega)]
   cases m with
   | zero =>
    right
    have hqe : q = u.length := by omega
    rw [hqe, List.take_length] at hTg
    exact ⟨by congr 1; simp; omega, rfl, hA2.put (by decide) _, hTM _ hm7, C', B2, hfin C' _ hm7 hC'3 hTg, hTg, by omega, hC'0, hC'1, hC'2⟩
   | succ m =>
    left
    exact ⟨m, rfl, by congr 1; simp; omega, q, by omega, hA2.put (by decide) _, by simp (disch := first | omega | simp only [Zs]; omega) only [Zo, Ze, Zn, Zq, g35], by simp (disch := first | omega | simp only [Zs]; omega) only [Zo, Ze, Zn, Zq, g36], by simp (disch := first | omega | simp only [Zs]; omega) only [Zo, Ze, Zn, Zq, g37], hm7, C', hTg, hC'0, hC'1, hC'2, hC'3⟩
  ·rintro m a2 w7 ⟨q, hq, hA2, g35, g36, g37, hm7, C', hTg, hC'0, hC'1, hC'2, hC'3⟩
   have hN2 := hA2.size
   have hql : q < u.length := by omega
   rcases hE with ⟨h0, _⟩ | ⟨kb, off, cap', Ct, tC, fr, c1, c2, c3, c4, c5⟩
   ·omega
   have hkb : w5.heap.size <= kb := hrv kb (by rw [c1]; rfl)
   have hkl := lt_of_block c4
   have c4' := hm7.some c4 (fun e => by rcases e with e | e <;> omega)
   obtain ⟨q1, q2, q3, q4⟩ := hg q hql
   obtain ⟨vv, hvv⟩ : ∃ vv, vv = g q 1 := ⟨_, rfl⟩
   have e0 := c5 q hql 0 (by omega)
   have e1 := c5 q hql 1 (by omega)
   rw [q1] at e0
   rw [<- hvv] at e1 q4
   refine wp_seq (wp_region_lit (Zv rfl (Zx (sz := 2) (i := q) (b := kb) (o := off) (n := u.length) (cap := cap') (k := .i64) (by kernel_rfl) ?_ ?_ hql) (Zv rfl (x_loadN (cs := [.int .u32 (u[q]).1, vv]) (b := kb) (o := off + q * 2) (by kernel_rfl) ?_ (fun j v hv => by
    rw [Zc c4']
    rcases j with _ | _ | j
    ·rw [<- hv]; exact e0
    ·rw [<- hv]; exact e1
    ·simp at hv)) (Zv rfl (x_alloc zeroTag) ?_))))
   ·simp (disch := first | omega | simp only [Zs]; omega) only [Zo, Ze, Zn, Zq, g35, c1]
   ·simp (disch := first | omega | simp only [Zs]; omega) only [Zo, Ze, Zn, Zq, g37]
   ·simp (disch := first | omega | simp only [Zs]; omega) only [Zo, Ze, Zn, Zq]
   obtain ⟨va, vc, hvs, _⟩ := q4.slice
   have r1' := Zh w7 (.cells (Value.agg #[.int .u32 0, .slice none 0 0]).cells 63)
   have n7 : Mod none' w7 (w7.alloc (.cells (Value.agg #[.int .u32 0, .slice none 0 0]).cells 63)) := (Mod.refl w7).alloc _
   generalize w7.alloc (.cells (Value.agg #[.int .u32 0, .slice none 0 0]).cells 63) = w8 at *
   obtain ⟨xb, hxb⟩ : ∃ b, b = w7.heap.size := ⟨_, rfl⟩
   rw [<- hxb] at r1' ⊢
   refine wpl_skip rfl (x_storeN (cs := #[.int .u32 (u[q]).1, vv]) (b := xb) (o := 0) (by kernel_rfl) ?_ ?_ (by rw [hvs]; simp [Value.oneCell']) ?_) (wpList_nil ?_)
   ·simp (disch := first | omega | simp only [Zs]; omega) only [Zo, Ze, Zn, Zq]
   ·simp (disch := first | omega | simp only [Zs]; omega) only [Zo, Ze, Zn, Zq]
   ·intro j hj
    have hj2 : j < 2 := hj
    rw [Zc r1', Zz r1', Nat.zero_add, Array.getElem?_eq_getElem (by show j < 2; omega)]
    exact ⟨rfl, rfl⟩
   have k2 := put_tree (cs := #[.int .u32 (u[q]).1, vv]) r1' rfl
   have m8 := mod_setCells xb w8 0 (#[.int .u32 (u[q]).1, vv] : Array Value).toList
   have m79 : Mod none' w7 (w8.setCells xb 0 (#[.int .u32 (u[q]).1, vv] : Array Value).toList) := n7.trans' m8 (fun _ _ f => f) (fun j hj e => by have e' : j = xb := e; omega)
   generalize w8.setCells xb 0 (#[.int .u32 (u[q]).1, vv] : Array Value).toList = w9 at *
   refine wp_act (fun b : Act => FitA fv ver b5 b6 b7 b /\ Act.get b 11 = .pointer (some ⟨xb, 0, none⟩) /\ Act.get b 35 = rv /\ Act.get b 36 = .int .i64 (u.length : Nat) /\ Act.get b 37 = .int .i64 (q : Nat)) ⟨?_, by simp (disch := first | omega | simp only [Zs]; omega) only [Zo, Ze, Zn, Zq], by simp (disch := first | omega | simp only [Zs]; omega) only [Zo, Ze, Zn, Zq, g35], by simp (disch := first | omega | simp only [Zs]; omega) only [Zo, Ze, Zn, Zq, g36], by simp (disch := first | omega | simp only [Zs]; omega) only [Zo, Ze, Zn, Zq, g37]⟩ ?_
   ·rw [Zo]
    exact ((hA2.put (by decide) _).put (by decide) _).put (by decide) _
   rintro b ⟨hAb, d11, d35, d36, d37⟩
   have hfit : fits .u32 (u[q]).1 := by simp [fits, IntKind.min, IntKind.max, IntKind.signed, IntKind.bits]; omega
   have m07 : Mod none' w0 w7 := (m05.trans hm56).trans' hm7 (fun _ _ f => f) (fun i hi e => by rcases e with e | e <;> omega)
   refine wp_mono (fit_tag (ts7 := #[]) (w0 := w0) (blk := b7) (B := B2) (xb := xb) (vv := vv) (p' := u[q]) hAb.size hAb.g7 (hTg.new tagR_ok m79) (m07.trans m79) (by simp [cutW]; omega) d11 k2 (fun k' lv' hlv hk' => by
    obtain ⟨lv2, lrow2, e1, e2⟩ := hTg.row
    rw [hlv] at e1
    have := Option.some.inj e1
    rw [<- this] at e2
    have := e2.own.lt k' hk'
    omega) q4 hfit) ?_
   rintro e c w10 ⟨rfl, hsb, hm10, v', hTg'⟩
   refine ⟨rfl, q, hq, hAb.same hsb (fun t ht => ?_), (hsb.get 35 (by decide)).trans d35, (hsb.get 36 (by decide)).trans d36, (hsb.get 37 (by decide)).trans d37, (hm7.trans (m79.mono fun _ _ f => f.elim)).trans hm10, C'.setIfInBounds (0 + 4) v', ?_, ?_, ?_, ?_, ?_⟩
   ·simp only [List.mem_cons, List.not_mem_nil, or_false] at ht; omega
   ·rw [show cutW (u.take (q + 1)) = cutW (u.take q) ++ [((u[q]).1, whole (u[q]).2)] by unfold cutW; rw [List.take_succ_eq_append_getElem hql, List.map_append]; rfl]; exact hTg'
   ·rw [Array.getElem?_setIfInBounds_ne (by decide)]; exact hC'0
   ·rw [Array.getElem?_setIfInBounds_ne (by decide)]; exact hC'1
   ·rw [Array.getElem?_setIfInBounds_ne (by decide)]; exact hC'2
   ·rw [Array.getElem?_setIfInBounds_ne (by decide)]; exact hC'3
  ·rintro m a2 w7 ⟨q, hq, hA2, g35, g36, g37, hm7, C', hTg, hC'⟩
   have hN2 := hA2.size
   refine wp_region_lit (Zv rfl (x_add (k := .i64) (m := (q : Nat)) (n := 1) (by rw [Ze, g37]) rfl) (Zv rfl Zm (wpList_nil ⟨rfl, q + 1, by omega, (hA2.put (by decide) _).put (by decide) _, by simp (disch := first | omega | simp only [Zs]; omega) only [Zo, Ze, Zn, Zq, g35], by simp (disch := first | omega | simp only [Zs]; omega) only [Zo, Ze, Zn, Zq, g36], ?_, hm7, C', hTg, hC'⟩)))
   simp (disch := first | omega | simp only [Zs]; omega) only [Zo, Ze, Zn, Zq]
   congr 1
   rw [IntKind.wrap_i64]; omega
 clear hA1 hAN1 hTb hC0 hC1 hC2 hC4 C hm5 h55 hsz5 m05
 rintro e a2 w6 ⟨rfl, hA2, hm6, C, B2, hTb, hTg, hBB, hC0, hC1, hC2⟩
 have hN2 := hA2.size
 -- it is given back
 obtain ⟨T7, hb7h⟩ := hTb.heap
 obtain ⟨lv, lrow, hC3, hG⟩ := hTb.row
 obtain ⟨uv2, urow, hC4, hG2⟩ := hTg.row
 obtain ⟨l1, l2, l3, l4⟩ := hTb.lo
 have hCs := hTb.size
 have hall : C.all (·.oneCell') = true := by
  obtain ⟨la, lc, hl⟩ := owns_slice hG.own
  obtain ⟨ua, uc, hu2⟩ := owns_slice hG2.own
  rw [Array.all_eq_true]
  intro i hi
  have h : ∀ v, C[i]? = some v -> v.oneCell' = true -> C[i].oneCell' = true := fun v h1 h2 => by
   rw [Array.getElem?_eq_getElem hi] at h1
   rw [Option.some.inj h1]; exact h2
  rcases (by omega : i = 0 \/ i = 1 \/ i = 2 \/ i = 3 \/ i = 4) with rfl | rfl | rfl | rfl | rfl
  ·exact h _ hC0 rfl
  ·exact h _ hC1 rfl
  ·exact h _ hC2 rfl
  ·exact h _ hC3 (by rw [hl]; rfl)
  ·exact h _ hC4 (by rw [hu2]; rfl)
 have h66 : w6.heap[b6]? = some (.cells zT 26 (0, 0)) := hm6.some h6 (fun e => by rcases e with e | e <;> omega)
 refine wp_seq (wp_region_lit (Zv rfl (x_loadN (cs := C.toList) (b := b7) (o := 0) (by rw [Array.length_toList, hCs]; kernel_rfl) (by rw [Ze]; exact hA2.g7) (fun j v hv => by rw [Zc hb7h, Nat.zero_add]; simpa using hv)) (wpl_skip rfl (x_storeN (cs := C) (b := b6) (o := 0) (by rw [hCs]; kernel_rfl) ?_ ?_ hall ?_) (wpList_nil (wp_ret ?_)))))
 ·rw [Ze, Zn (by decide)]; exact hA2.g6
 ·rw [Ze, Zq (by omega)]
 ·intro j hj
  rw [Zc h66, Zz h66, Nat.zero_add, Array.getElem?_eq_getElem (by show j < 5; omega)]
  exact ⟨rfl, rfl⟩
 have k6 := put_tree (cs := C) h66 (by rw [hCs]; rfl)
 have p6 := mod_setCells b6 w6 0 C.toList
 have hs6 := hm6.size
 have mfin : Mod none' w (w6.setCells b6 0 C.toList) := (m04.trans' hm6 (fun _ _ f => f) (fun i hi e => by rcases e with e | e <;> omega)).trans' p6 (fun _ _ f => f) (fun i hi e => by have e' : i = b6 := e; omega)
 generalize w6.setCells b6 0 C.toList = w7 at *
 refine bodyPost_ret (results_cellN rfl (b := b6) (o := 0) (cs := C.toList) ?_ (by rw [Array.length_toList, hCs]; kernel_rfl) (fun j v hv => by rw [Zc k6, Nat.zero_add]; simpa using hv)) ?_ ⟨_, rfl, mfin, C, by simp, hCs, hall, ?_⟩
 ·rw [Zo]
  show Act.get _ 6 = _
  rw [Zn (by decide)]; exact hA2.g6
 ·simp only [Zd]; exact hA2.defers
 ·have f6 : ∀ k, only b6 k -> ¬ (k < w0.heap.size) /\ k < B := fun k e => by have e' : k = b6 := e; omega
  refine tree_rows (hG.mod treeR_ok p6 f6) (hG2.mod tagR_ok p6 (fun k e => ⟨(f6 k e).1, by have := (f6 k e).2; omega⟩)) ⟨by rw [fitsW_length]; omega, by simp [cutW]; omega⟩ (get_from' hC0) (get_from' hC1) (get_from' hC2) (get_from' hC3) (get_from' hC4) (fun k hk => ?_) (fun k hk => ?_)
  ·rcases hk with hk | hk
   ·exact .inl hk
   ·exact .inr (by omega)
  ·rcases hk with hk | hk
   ·exact .inl hk
   ·exact .inr (by omega)
end Go.Proofs.YtmehfgiadapekaaGreat
