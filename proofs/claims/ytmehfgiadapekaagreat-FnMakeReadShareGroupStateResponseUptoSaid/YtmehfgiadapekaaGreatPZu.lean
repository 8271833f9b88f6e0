/-
  spec.fitted: whether a list is null.
-/
import Derived.Test.YtmehfgiadapekaaGreatPZk
set_option linter.unusedSimpArgs false
set_option linter.unusedVariables false
namespace Go.Proofs.YtmehfgiadapekaaGreat
open Go Go.RowKit
theorem unwanted_undef {ops : Array Oper} {o : Oper} {a : Act} {k d : Nat} {b : Bool} (hg : o.guard = some (k, b)) (hd : ((ops[k]?).bind (·.dst)) = some d) (h : Act.get a d = undef) : Region.wanted o (yielded ops a.tmps) = false := by
 unfold Region.wanted
 rw [hg]
 show (yielded ops a.tmps k == some b) = _
 have : yielded ops a.tmps k = none := by
  unfold yielded
  rw [hd]
  simp only [Option.bind_some]
  unfold Act.get at h
  simp only [Array.getD_eq_getD_getElem?] at h
  cases ht : a.tmps[d]? with
  | none => rfl
  | some v => rw [ht] at h; simp at h; subst h; rfl
 rw [this]; rfl
/-- slots that stay in fitted -/
structure FdA (ver : Int) (nz : Bool) (kd : Int) (b3 b5 b6 : Nat) (a : Act) : Prop where
 size : a.tmps.size = 82
 defers : a.defers = []
 g1 : Act.get a 1 = .int .i64 ver
 g3 : Act.get a 3 = .pointer (some ⟨b3, 0, none⟩)
 g5 : Act.get a 5 = .pointer (some ⟨b5, 0, none⟩)
 g6 : Act.get a 6 = .pointer (some ⟨b6, 0, none⟩)
 g7 : Act.get a 7 = .bool nz
 g18 : Act.get a 18 = .int .i64 kd
theorem FdA.put {ver : Int} {nz : Bool} {kd : Int} {b3 b5 b6 : Nat} {a : Act} (h : FdA ver nz kd b3 b5 b6 a) {t : Nat} (ht : 8 <= t /\ t ≠ 18) (v : Value) : FdA ver nz kd b3 b5 b6 (a.put (some t) v) :=
 ⟨(Zs _ _ _).trans h.size, (Zd _ _ _).trans h.defers, (Zn (by omega)).trans h.g1, (Zn (by omega)).trans h.g3, (Zn (by omega)).trans h.g5, (Zn (by omega)).trans h.g6, (Zn (by omega)).trans h.g7, (Zn ht.2).trans h.g18⟩
theorem FdA.same {ver : Int} {nz : Bool} {kd : Int} {b3 b5 b6 : Nat} {a a' : Act} (h : FdA ver nz kd b3 b5 b6 a) {S : Nat -> Prop} (hs : SameBut S a a') (hS : ∀ t, S t -> 8 <= t /\ t ≠ 18) : FdA ver nz kd b3 b5 b6 a' :=
 have q : ∀ t, t < 8 \/ t = 18 -> Act.get a' t = Act.get a t := fun t ht => hs.get t (fun e => by have := hS t e; omega)
 ⟨hs.size.trans h.size, hs.defers.trans h.defers, (q 1 (by decide)).trans h.g1, (q 3 (by decide)).trans h.g3, (q 5 (by decide)).trans h.g5, (q 6 (by decide)).trans h.g6, (q 7 (by decide)).trans h.g7, (q 18 (by decide)).trans h.g18⟩
section
variable {P : Program} {ops : Array Oper} {Q : Exit -> Act -> World -> Prop} {rest : List Oper} {a : Act} {w : World}
theorem wpl_gskip {o : Oper} {k d : Nat} {b b' : Bool} (hg : o.guard = some (k, b)) (hd : ((ops[k]?).bind (·.dst)) = some d) (hb : Act.get a d = .bool b') (hne : (b' == b) = false) (h : wpList P ops Q rest (a.put o.dst undef) w) : wpList P ops Q (o :: rest) a w := wpl_unwanted ((wanted_of hg hd hb).trans hne) h
theorem wpl_gundef {o : Oper} {k d : Nat} {b : Bool} (hg : o.guard = some (k, b)) (hd : ((ops[k]?).bind (·.dst)) = some d) (hb : Act.get a d = undef) (h : wpList P ops Q rest (a.put o.dst undef) w) : wpList P ops Q (o :: rest) a w := wpl_unwanted (unwanted_undef hg hd hb) h
theorem wl_gskip {o : Oper} {k d : Nat} {b b' : Bool} (hg : o.guard = some (k, b)) (hd : ((ops[k]?).bind (·.dst)) = some d) (hb : Act.get a d = .bool b') (hne : (b' == b) = false) (h : WL P ops Q rest (a.put o.dst undef) w) : WL P ops Q (o :: rest) a w := ⟨wpl_gskip hg hd hb hne h.out⟩
theorem wl_gundef {o : Oper} {k d : Nat} {b : Bool} (hg : o.guard = some (k, b)) (hd : ((ops[k]?).bind (·.dst)) = some d) (hb : Act.get a d = undef) (h : WL P ops Q rest (a.put o.dst undef) w) : WL P ops Q (o :: rest) a w := ⟨wpl_gundef hg hd hb h.out⟩
end
set_option maxRecDepth 100000 in
set_option maxHeartbeats 4000000 in
theorem fitted_null {w4 : World} {b : Act} {ver kind g : Int} {nz : Bool} {b3 b5 b6 id T3 : Nat} {fc : Array Value} {ya yb yc yd ye yf y0 y1 y2 y3 y4 y5 y6 y7 y8 y9 y10 y11 y12 y13 y14 : TypeId} {p0 p1 p2 p3 p4 p5 p6 p7 p8 p9 p10 p11 p12 p13 p14 : String} {e0 e1 e2 e3 e4 e5 e6 e7 e8 e9 e10 e11 e12 e13 e14 : Array Edge} {ts : Array TypeId} (hgeq : decide (0 <= g) = false) (hB : FdA ver nz kind b3 b5 b6 b) (h3 : w4.heap[b3]? = some (.cells fc T3 (0, 0))) (hc4 : fc[0 + 4]? = some (.int .i64 g)) (hone : one Tryz.prog ya = true) :
  (Code.region id #[⟨some 39, .move (.tmp 7), y0, p0, e0, none⟩,
   ⟨some 40, .move (.tmp 39), y1, p1, e1, none⟩,
   ⟨some 41, .fieldAddr 51 (.tmp 3) 4, y2, p2, e2, some (1, false)⟩,
   ⟨some 42, .load ya (.tmp 41), y3, p3, e3, some (1, false)⟩,
   ⟨some 43, .binOp .geq yb (.tmp 42) (.const (.int .i64 0)) yc, y4, p4, e4, some (1, false)⟩,
   ⟨some 44, .move (.tmp 43), y5, p5, e5, some (1, false)⟩,
   ⟨some 45, .fieldAddr 26 (.tmp 5) 3, y6, p6, e6, some (5, true)⟩,
   ⟨some 46, .load yd (.tmp 45), y7, p7, e7, some (5, true)⟩,
   ⟨some 47, .call ⟨.builtin .len, #[.tmp 46], ts⟩, y8, p8, e8, some (5, true)⟩,
   ⟨some 48, .binOp .eql ye (.tmp 47) (.const (.int .i64 0)) yf, y9, p9, e9, some (5, true)⟩,
   ⟨some 49, .pick (.tmp 44) (.tmp 48) (.const (.bool false)), y10, p10, e10, some (1, false)⟩,
   ⟨some 50, .pick (.tmp 40) (.const (.bool true)) (.tmp 49), y11, p11, e11, none⟩,
   ⟨some 51, .build 26 #[(2, .tmp 50)], y12, p12, e12, none⟩,
   ⟨some 9, .alloc 26, y13, p13, e13, none⟩,
   ⟨none, .store 26 (.tmp 9) (.tmp 51), y14, p14, e14, none⟩] false).wp Tryz.prog (fun e b w' => e = .normal /\ FdA ver nz kind b3 b5 b6 b /\ Act.get b 9 = .pointer (some ⟨w4.heap.size, 0, none⟩) /\ w'.heap[w4.heap.size]? = some (.cells #[.int .i64 0, .slice none 0 0, .bool nz, .slice none 0 0, .slice none 0 0] 26 (0, 0)) /\ Mod none' w4 w') b w4 := by
 have hBN := hB.size
 cases nz with
 | false =>
  refine wp_region_lit (WL.out ?_)
  refine wl_val rfl (x_moveV hB.g7) ?_
  refine wl_val rfl (x_moveV (v := .bool false) (by simp (disch := first | omega | simp only [Zs]; omega) only [Zo, Ze, Zn, Zq])) ?_
  refine wl_gval (k := 1) (b := false) (d := 40) rfl rfl (by simp (disch := first | omega | simp only [Zs]; omega) only [Zo, Ze, Zn, Zq]) (Za (show fieldOff Tryz.prog 51 4 = some 4 by kernel_rfl) (b := b3) (o0 := 0) (by simp (disch := first | omega | simp only [Zs]; omega) only [Zo, Ze, Zn, Zq, hB.g3])) ?_
  refine wl_gval (k := 1) (b := false) (d := 40) rfl rfl (by simp (disch := first | omega | simp only [Zs]; omega) only [Zo, Ze, Zn, Zq]) (Zl hone (b := b3) (o := 0 + 4) (v := .int .i64 g) (by simp (disch := first | omega | simp only [Zs]; omega) only [Zo, Ze, Zn, Zq]) (by rw [Zc h3]; exact hc4)) ?_
  refine wl_gval (k := 1) (b := false) (v := .bool false) (d := 40) rfl rfl (by simp (disch := first | omega | simp only [Zs]; omega) only [Zo, Ze, Zn, Zq]) ((x_geq (k := .i64) (m := g) (n := 0) (by simp (disch := first | omega | simp only [Zs]; omega) only [Zo, Ze, Zn, Zq]) rfl).trans (by rw [hgeq])) ?_
  refine wl_gval (k := 1) (b := false) (d := 40) rfl rfl (by simp (disch := first | omega | simp only [Zs]; omega) only [Zo, Ze, Zn, Zq]) (x_moveV (v := .bool false) (by simp (disch := first | omega | simp only [Zs]; omega) only [Zo, Ze, Zn, Zq])) ?_
  refine wl_gskip (k := 5) (b := true) (b' := false) (d := 44) rfl rfl (by simp (disch := first | omega | simp only [Zs]; omega) only [Zo, Ze, Zn, Zq]) rfl ?_
  refine wl_gskip (k := 5) (b := true) (b' := false) (d := 44) rfl rfl (by simp (disch := first | omega | simp only [Zs]; omega) only [Zo, Ze, Zn, Zq]) rfl ?_
  refine wl_gskip (k := 5) (b := true) (b' := false) (d := 44) rfl rfl (by simp (disch := first | omega | simp only [Zs]; omega) only [Zo, Ze, Zn, Zq]) rfl ?_
  refine wl_gskip (k := 5) (b := true) (b' := false) (d := 44) rfl rfl (by simp (disch := first | omega | simp only [Zs]; omega) only [Zo, Ze, Zn, Zq]) rfl ?_
  refine wl_gval (k := 1) (b := false) (d := 40) rfl rfl (by simp (disch := first | omega | simp only [Zs]; omega) only [Zo, Ze, Zn, Zq]) (x_pickF (v := .bool false) (by simp (disch := first | omega | simp only [Zs]; omega) only [Zo, Ze, Zn, Zq]) rfl) ?_
  refine wl_val rfl (x_pickF (v := .bool false) (by simp (disch := first | omega | simp only [Zs]; omega) only [Zo, Ze, Zn, Zq]) (by simp (disch := first | omega | simp only [Zs]; omega) only [Zo, Ze, Zn, Zq])) ?_
  refine wl_val rfl (x_build (cells := #[.int .i64 0, .slice none 0 0, .bool false, .slice none 0 0, .slice none 0 0]) ?_) ?_
  ·simp (disch := first | omega | simp only [Zs]; omega) only [List.map_toArray, List.map_cons, List.map_nil, Zo, Ze, Zn, Zq]
   kernel_rfl
  refine wl_val rfl (x_alloc zeroTree) ?_
  have r1 := Zh w4 (.cells (Value.agg zT).cells 26)
  refine ⟨wpl_skip rfl (x_storeN (cs := #[.int .i64 0, .slice none 0 0, .bool false, .slice none 0 0, .slice none 0 0]) (b := w4.heap.size) (o := 0) (by kernel_rfl) (by simp (disch := first | omega | simp only [Zs]; omega) only [Zo, Ze, Zn, Zq]) (by simp (disch := first | omega | simp only [Zs]; omega) only [Zo, Ze, Zn, Zq]) (by kernel_rfl) ?_) (wpList_nil ?_)⟩
  ·intro j hj
   rw [Zc r1, Zz r1, Nat.zero_add, Array.getElem?_eq_getElem (by show j < 5; exact hj)]
   exact ⟨rfl, rfl⟩
  ·refine ⟨rfl, ?_, by simp (disch := first | omega | simp only [Zs]; omega) only [Zo, Ze, Zn, Zq], put_tree (cs := #[.int .i64 0, .slice none 0 0, .bool false, .slice none 0 0, .slice none 0 0]) r1 rfl, ((Mod.refl w4).alloc _).trans' (mod_setCells w4.heap.size _ 0 _) (fun _ _ f => f) (fun i hi e => by have e' : i = w4.heap.size := e; omega)⟩
   exact ⟨by simp only [Zs]; exact hB.size, by simp only [Zd]; exact hB.defers, by simp (disch := first | omega | simp only [Zs]; omega) only [Zo, Ze, Zn, Zq, hB.g1], by simp (disch := first | omega | simp only [Zs]; omega) only [Zo, Ze, Zn, Zq, hB.g3], by simp (disch := first | omega | simp only [Zs]; omega) only [Zo, Ze, Zn, Zq, hB.g5], by simp (disch := first | omega | simp only [Zs]; omega) only [Zo, Ze, Zn, Zq, hB.g6], by simp (disch := first | omega | simp only [Zs]; omega) only [Zo, Ze, Zn, Zq, hB.g7], by simp (disch := first | omega | simp only [Zs]; omega) only [Zo, Ze, Zn, Zq, hB.g18]⟩
 | true =>
  refine wp_region_lit (WL.out ?_)
  refine wl_val rfl (x_moveV hB.g7) ?_
  refine wl_val rfl (x_moveV (v := .bool true) (by simp (disch := first | omega | simp only [Zs]; omega) only [Zo, Ze, Zn, Zq])) ?_
  refine wl_gskip (k := 1) (b := false) (b' := true) (d := 40) rfl rfl (by simp (disch := first | omega | simp only [Zs]; omega) only [Zo, Ze, Zn, Zq]) rfl ?_
  refine wl_gskip (k := 1) (b := false) (b' := true) (d := 40) rfl rfl (by simp (disch := first | omega | simp only [Zs]; omega) only [Zo, Ze, Zn, Zq]) rfl ?_
  refine wl_gskip (k := 1) (b := false) (b' := true) (d := 40) rfl rfl (by simp (disch := first | omega | simp only [Zs]; omega) only [Zo, Ze, Zn, Zq]) rfl ?_
  refine wl_gskip (k := 1) (b := false) (b' := true) (d := 40) rfl rfl (by simp (disch := first | omega | simp only [Zs]; omega) only [Zo, Ze, Zn, Zq]) rfl ?_
  refine wl_gundef (k := 5) (b := true) (d := 44) rfl rfl (by simp (disch := first | omega | simp only [Zs]; omega) only [Zo, Ze, Zn, Zq]) ?_
  refine wl_gundef (k := 5) (b := true) (d := 44) rfl rfl (by simp (disch := first | omega | simp only [Zs]; omega) only [Zo, Ze, Zn, Zq]) ?_
  refine wl_gundef (k := 5) (b := true) (d := 44) rfl rfl (by simp (disch := first | omega | simp only [Zs]; omega) only [Zo, Ze, Zn, Zq]) ?_
  refine wl_gundef (k := 5) (b := true) (d := 44) rfl rfl (by simp (disch := first | omega | simp only [Zs]; omega) only [Zo, Ze, Zn, Zq]) ?_
  refine wl_gskip (k := 1) (b := false) (b' := true) (d := 40) rfl rfl (by simp (disch := first | omega | simp only [Zs]; omega) only [Zo, Ze, Zn, Zq]) rfl ?_
  refine wl_val rfl (x_pickT (v := .bool true) (by simp (disch := first | omega | simp only [Zs]; omega) only [Zo, Ze, Zn, Zq]) rfl) ?_
  refine wl_val rfl (x_build (cells := #[.int .i64 0, .slice none 0 0, .bool true, .slice none 0 0, .slice none 0 0]) ?_) ?_
  ·simp (disch := first | omega | simp only [Zs]; omega) only [List.map_toArray, List.map_cons, List.map_nil, Zo, Ze, Zn, Zq]
   kernel_rfl
  refine wl_val rfl (x_alloc zeroTree) ?_
  have r1 := Zh w4 (.cells (Value.agg zT).cells 26)
  refine ⟨wpl_skip rfl (x_storeN (cs := #[.int .i64 0, .slice none 0 0, .bool true, .slice none 0 0, .slice none 0 0]) (b := w4.heap.size) (o := 0) (by kernel_rfl) (by simp (disch := first | omega | simp only [Zs]; omega) only [Zo, Ze, Zn, Zq]) (by simp (disch := first | omega | simp only [Zs]; omega) only [Zo, Ze, Zn, Zq]) (by kernel_rfl) ?_) (wpList_nil ?_)⟩
  ·intro j hj
   rw [Zc r1, Zz r1, Nat.zero_add, Array.getElem?_eq_getElem (by show j < 5; exact hj)]
   exact ⟨rfl, rfl⟩
  ·refine ⟨rfl, ?_, by simp (disch := first | omega | simp only [Zs]; omega) only [Zo, Ze, Zn, Zq], put_tree (cs := #[.int .i64 0, .slice none 0 0, .bool true, .slice none 0 0, .slice none 0 0]) r1 rfl, ((Mod.refl w4).alloc _).trans' (mod_setCells w4.heap.size _ 0 _) (fun _ _ f => f) (fun i hi e => by have e' : i = w4.heap.size := e; omega)⟩
   exact ⟨by simp only [Zs]; exact hB.size, by simp only [Zd]; exact hB.defers, by simp (disch := first | omega | simp only [Zs]; omega) only [Zo, Ze, Zn, Zq, hB.g1], by simp (disch := first | omega | simp only [Zs]; omega) only [Zo, Ze, Zn, Zq, hB.g3], by simp (disch := first | omega | simp only [Zs]; omega) only [Zo, Ze, Zn, Zq, hB.g5], by simp (disch := first | omega | simp only [Zs]; omega) only [Zo, Ze, Zn, Zq, hB.g6], by simp (disch := first | omega | simp only [Zs]; omega) only [Zo, Ze, Zn, Zq, hB.g7], by simp (disch := first | omega | simp only [Zs]; omega) only [Zo, Ze, Zn, Zq, hB.g18]⟩
end Go.Proofs.YtmehfgiadapekaaGreat
