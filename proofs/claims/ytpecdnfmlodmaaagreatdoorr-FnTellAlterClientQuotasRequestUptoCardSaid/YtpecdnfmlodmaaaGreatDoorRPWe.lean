/-
  The reader of package spec: whether a part is told as it was written.
-/
import Derived.Test.YtpecdnfmlodmaaaGreatDoorRPWd
set_option linter.unusedSimpArgs false
set_option linter.unusedVariables false
namespace Go.Proofs.YtpecdnfmlodmaaaGreatDoorR
open Go Go.RowKit
theorem tree_one {w : World} {v : Value} {g : Nat -> Nat -> Value} {x : Tr} (h : ElemsI w v 1 5 g) (hx : TreeI w (g 0) x) : TreeI w (from' #[.int .i64 0, .slice none 0 0, .bool false, v, .slice none 0 0] 0) (.mk 0 [] false [x] []) := by
 refine .mk (f := g) (g := fun _ _ => undef) rfl (fits_zero _) (.inl ⟨rfl, _, _, rfl⟩) rfl h (fun i hi => ?_) (.inl ⟨rfl, _, _, rfl⟩) (fun i h => by simp at h)
 have : i = 0 := by simp at hi; omega
 subst this
 exact hx
set_option maxRecDepth 100000 in
/-- '!told(f, version, flex, x, got.L[i])' -/
theorem Told_elem {w : World} {a : Act} {b9 b12 b13 k2 off2 n2 cap2 i : Nat} {ver : Int} {flex : Bool} {F X C2 cs cx : Array Value} {T9 T12 T13 Tk2 : TypeId} {fr2 : Nat × Nat} {id : Nat} {y0 y1 y2 y3 y4 y5 y6 y7 y8 y9 y10 ya10 : TypeId} {p0 p1 p2 p3 p4 p5 p6 p7 p8 p9 p10 : String} {ts9 : Array TypeId} (hN : a.tmps.size = 120)
  (g1 : Act.get a 1 = .int .i64 ver) (g2 : Act.get a 2 = .bool flex) (g9 : Act.get a 9 = .pointer (some ⟨b9, 0, none⟩)) (g11 : Act.get a 11 = .int .i64 ((i : Nat) : Int)) (g12 : Act.get a 12 = .pointer (some ⟨b12, 0, none⟩)) (g13 : Act.get a 13 = .pointer (some ⟨b13, 0, none⟩))
  (h12 : w.heap[b12]? = some (.cells F T12 (0, 0))) (hF8 : F.size = 8) (h13 : w.heap[b13]? = some (.cells cs T13 (0, 0))) (hcs : cs.size = 5) (h9 : w.heap[b9]? = some (.cells X T9 (0, 0))) (hX3 : X[0 + 3]? = some (.slice (some ⟨k2, off2, none⟩) n2 cap2)) (hi2 : i < n2)
  (hk2 : w.heap[k2]? = some (.cells C2 Tk2 fr2)) (hC2 : ∀ j v, cx.toList[j]? = some v -> C2[off2 + i * 5 + j]? = some v) (hcx : cx.size = 5)
  (hT : ∀ W, Mod none' w W -> Calls Tryz.prog 54 #[.agg F, .int .i64 ver, .bool flex, .agg cs, .agg cx] W fun e w' => e = .returned (.bool true) /\ Mod none' W w') :
  (Code.region id #[⟨some 55, .load 56 (.tmp 12), y0, p0, #[], none⟩,
   ⟨some 56, .move (.tmp 1), y1, p1, #[], none⟩,
   ⟨some 57, .move (.tmp 2), y2, p2, #[], none⟩,
   ⟨some 58, .load 26 (.tmp 13), y3, p3, #[], none⟩,
   ⟨some 59, .fieldAddr 26 (.tmp 9) 3, y4, p4, #[], none⟩,
   ⟨some 60, .load 23 (.tmp 59), y5, p5, #[⟨4, .data⟩], none⟩,
   ⟨some 61, .move (.tmp 11), y6, p6, #[], none⟩,
   ⟨some 62, .indexAddr 23 (.tmp 60) (.tmp 61), y7, p7, #[⟨5, .data⟩, ⟨6, .data⟩], none⟩,
   ⟨some 63, .load 26 (.tmp 62), y8, p8, #[⟨7, .data⟩], none⟩,
   ⟨some 64, .call ⟨.value (.func 54), #[.tmp 55, .tmp 56, .tmp 57, .tmp 58, .tmp 63], ts9⟩, y9, p9, #[⟨0, .data⟩, ⟨1, .data⟩, ⟨2, .data⟩, ⟨3, .data⟩, ⟨8, .data⟩], none⟩,
   ⟨some 65, .unOp .not ya10 (.tmp 64), y10, p10, #[⟨9, .data⟩], none⟩] true).wp Tryz.prog
  (fun e a' w' => e = .normal /\ SameBut (fun t => t ∈ [55, 56, 57, 58, 59, 60, 61, 62, 63, 64, 65]) a a' /\ Mod none' w w' /\ Act.get a' 65 = .bool false) a w := by
 refine region_rlq (l := [_, _, _, _, _, _, _, _, _, _]) (tl := [_]) rfl (Mod none') (fun a b h => h) (fun _ _ _ h h' => h.trans h') [55, 56, 57, 58, 59, 60, 61, 62, 63, 64]
  [fun v _ => v = .agg (F), fun v _ => v = .int .i64 ver, fun v _ => v = .bool flex, fun v _ => v = .agg (cs), fun v _ => v = .pointer (some ⟨b9, 0 + 3, none⟩), fun v _ => v = .slice (some ⟨k2, off2, none⟩) n2 cap2, fun v _ => v = .int .i64 ((i : Nat) : Int), fun v _ => v = .pointer (some ⟨k2, off2 + i * 5, none⟩), fun v _ => v = .agg cx]
  (fun v _ => v = .bool true)
  ?_ ?_ (by simp [regFormT]) (by decide) (fun d hd => by rw [hN]; simp at hd; omega) (by simp) (by kernel_rfl) ⟨?_, ?_, ?_, ?_, ?_, ?_, ?_, ?_, ?_, ?_, trivial⟩ ?_
 ·intro g hg u1 w1 w2 hv hr
  simp only [List.mem_cons, List.not_mem_nil, or_false] at hg
  rcases hg with rfl | rfl | rfl | rfl | rfl | rfl | rfl | rfl | rfl
  ·exact hv
  ·exact hv
  ·exact hv
  ·exact hv
  ·exact hv
  ·exact hv
  ·exact hv
  ·exact hv
  ·exact hv
 ·intro u1 w1 w2 hv hr
  exact hv
 ·intro a1 w1 hr hp hs hd
  have t1 := (hs.get 12 (by decide)).trans g12
  have k1 := hr.some h12 (fun f => f)
  refine Zw (x_loadN (cs := (F).toList) (b := b12) (o := 0) (by rw [Array.length_toList, hF8]; kernel_rfl) (by rw [Ze]; exact t1) (fun j v hv => by rw [Zc k1, Nat.zero_add]; simpa using hv)) ⟨_, rfl, relp_ne (by rfl) (.refl _), by simp⟩
 ·intro a1 w1 hr hp hs hd
  have t1 := (hs.get 1 (by decide)).trans g1
  exact Zw (x_moveV t1) ⟨_, rfl, relp_ne (by rfl) (.refl _), rfl⟩
 ·intro a1 w1 hr hp hs hd
  have t1 := (hs.get 2 (by decide)).trans g2
  exact Zw (x_moveV t1) ⟨_, rfl, relp_ne (by rfl) (.refl _), rfl⟩
 ·intro a1 w1 hr hp hs hd
  have t1 := (hs.get 13 (by decide)).trans g13
  have k1 := hr.some h13 (fun f => f)
  refine Zw (x_loadN (cs := (cs).toList) (b := b13) (o := 0) (by rw [Array.length_toList, hcs]; kernel_rfl) (by rw [Ze]; exact t1) (fun j v hv => by rw [Zc k1, Nat.zero_add]; simpa using hv)) ⟨_, rfl, relp_ne (by rfl) (.refl _), by simp⟩
 ·intro a1 w1 hr hp hs hd
  have t1 := (hs.get 9 (by decide)).trans g9
  exact Zw (Za (o := 3) (by kernel_rfl) (b := b9) (o0 := 0) (by rw [Ze]; exact t1)) ⟨_, rfl, relp_ne (by rfl) (.refl _), rfl⟩
 ·intro a1 w1 hr hp hs hd
  have t1 : Act.get a1 59 = .pointer (some ⟨b9, 0 + 3, none⟩) := hd ⟨4, .data⟩ (by simp) rfl
  have k1 := hr.some h9 (fun f => f)
  exact Zw (Zl (by kernel_rfl) (b := b9) (o := 0 + 3) (v := .slice (some ⟨k2, off2, none⟩) n2 cap2) (by rw [Ze]; exact t1) (by rw [Zc k1]; exact hX3)) ⟨_, rfl, relp_ne (by rfl) (.refl _), rfl⟩
 ·intro a1 w1 hr hp hs hd
  have t1 := (hs.get 11 (by decide)).trans g11
  exact Zw (x_moveV t1) ⟨_, rfl, relp_ne (by rfl) (.refl _), rfl⟩
 ·intro a1 w1 hr hp hs hd
  have t1 : Act.get a1 60 = .slice (some ⟨k2, off2, none⟩) (n2) (cap2) := hd ⟨5, .data⟩ (by simp) rfl
  have t2 : Act.get a1 61 = .int .i64 ((i : Nat) : Int) := hd ⟨6, .data⟩ (by simp) rfl
  exact Zw (Zx (sz := 5) (i := i) (b := k2) (o := off2) (n := n2) (cap := cap2) (k := .i64) (by kernel_rfl) (by rw [Ze]; exact t1) (by rw [Ze]; exact t2) hi2) ⟨_, rfl, relp_ne (by rfl) (.refl _), rfl⟩
 ·intro a1 w1 hr hp hs hd
  have t1 : Act.get a1 62 = .pointer (some ⟨k2, off2 + i * 5, none⟩) := hd ⟨7, .data⟩ (by simp) rfl
  have k1 := hr.some hk2 (fun f => f)
  refine Zw (x_loadN (cs := cx.toList) (b := k2) (o := off2 + i * 5) (by rw [Array.length_toList, hcx]; kernel_rfl) (by rw [Ze]; exact t1) (fun j v hv => by rw [Zc k1]; exact hC2 j v hv)) ⟨_, rfl, relp_ne (by rfl) (.refl _), by simp⟩
 ·intro a1 w1 hr hp hs hd
  have q0 : Act.get a1 55 = .agg F := hd ⟨0, .data⟩ (by simp) rfl
  have q1 : Act.get a1 56 = .int .i64 ver := hd ⟨1, .data⟩ (by simp) rfl
  have q2 : Act.get a1 57 = .bool flex := hd ⟨2, .data⟩ (by simp) rfl
  have q3 : Act.get a1 58 = .agg cs := hd ⟨3, .data⟩ (by simp) rfl
  have q8 : Act.get a1 63 = .agg cx := hd ⟨8, .data⟩ (by simp) rfl
  have e1 : (#[.tmp 55, .tmp 56, .tmp 57, .tmp 58, .tmp 63] : Array Operand).map a1.eval = #[.agg F, .int .i64 ver, .bool flex, .agg cs, .agg cx] := by simp [Ze, q0, q1, q2, q3, q8]
  refine owp_call (Zy (by kernel_rfl) rfl) (by rw [e1]; exact hT _ hr) ?_
  rintro e w2 ⟨rfl, hm⟩
  exact ⟨_, rfl, _, rfl, relp_eq hm, rfl⟩
 ·intro a1 w1 hr hs hh
  have q3 : Act.get a1 64 = .bool true := hh 9 (by simp)
  refine Zv rfl (x_notV (b := true) (c := false) (by rw [Ze]; exact q3) rfl) (wpList_nil ⟨rfl, (hs.sub (by decide)).puts (by decide) _, hr, ?_⟩)
  rw [Zq (by rw [hs.size, hN]; decide)]
set_option maxRecDepth 100000 in
/-- '!Usual([]Field{f}, Tree{L: []Tree{got.L[i]}})' -/
theorem Told_usual {w : World} {a : Act} {b9 b12 k2 off2 n2 cap2 i : Nat} {fd : FD} {sv : Value} {X C2 cx : Array Value} {xi : Tr} {T9 T12 Tk2 : TypeId} {fr2 : Nat × Nat} {id : Nat} {y0 y1 y2 y3 y4 y5 y6 y7 y8 y9 y10 ya10 : TypeId} {p0 p1 p2 p3 p4 p5 p6 p7 p8 p9 p10 : String} {ts9 : Array TypeId} (hN : a.tmps.size = 120)
  (g9 : Act.get a 9 = .pointer (some ⟨b9, 0, none⟩)) (g11 : Act.get a 11 = .int .i64 ((i : Nat) : Int)) (g12 : Act.get a 12 = .pointer (some ⟨b12, 0, none⟩))
  (h12 : w.heap[b12]? = some (.cells (fd.cells sv) T12 (0, 0))) (h9 : w.heap[b9]? = some (.cells X T9 (0, 0))) (hX3 : X[0 + 3]? = some (.slice (some ⟨k2, off2, none⟩) n2 cap2)) (hi2 : i < n2)
  (hk2 : w.heap[k2]? = some (.cells C2 Tk2 fr2)) (hC2 : ∀ j v, cx.toList[j]? = some v -> C2[off2 + i * 5 + j]? = some v) (hcx : cx.size = 5) (hx : TreeI w (from' cx 0) xi) (hsub : FdsI w sv fd.sub)
  (hT : ∀ W v cb, Mod none' w W -> FdsI W v [fd] -> cb.size = 5 -> TreeI W (from' cb 0) (.mk 0 [] false [xi] []) -> UsualC v cb W) :
  (Code.region id #[⟨some 66, .load 56 (.tmp 12), y0, p0, #[], none⟩,
   ⟨some 67, .buildSlice 29 1 #[(0, .tmp 66)], y1, p1, #[⟨0, .data⟩], none⟩,
   ⟨some 68, .fieldAddr 26 (.tmp 9) 3, y2, p2, #[], none⟩,
   ⟨some 69, .load 23 (.tmp 68), y3, p3, #[⟨2, .data⟩], none⟩,
   ⟨some 70, .move (.tmp 11), y4, p4, #[], none⟩,
   ⟨some 71, .indexAddr 23 (.tmp 69) (.tmp 70), y5, p5, #[⟨3, .data⟩, ⟨4, .data⟩], none⟩,
   ⟨some 72, .load 26 (.tmp 71), y6, p6, #[⟨5, .data⟩], none⟩,
   ⟨some 73, .buildSlice 23 1 #[(0, .tmp 72)], y7, p7, #[⟨6, .data⟩], none⟩,
   ⟨some 74, .build 26 #[(3, .tmp 73)], y8, p8, #[⟨7, .data⟩], none⟩,
   ⟨some 75, .call ⟨.value (.func 55), #[.tmp 67, .tmp 74], ts9⟩, y9, p9, #[⟨1, .data⟩, ⟨8, .data⟩], none⟩,
   ⟨some 76, .unOp .not ya10 (.tmp 75), y10, p10, #[⟨9, .data⟩], none⟩] true).wp Tryz.prog
  (fun e a' w' => e = .normal /\ SameBut (fun t => t ∈ [66, 67, 68, 69, 70, 71, 72, 73, 74, 75, 76]) a a' /\ Mod none' w w' /\ Act.get a' 76 = .bool false) a w := by
 refine region_rlq (l := [_, _, _, _, _, _, _, _, _, _]) (tl := [_]) rfl (Mod none') (fun a b h => h) (fun _ _ _ h h' => h.trans h') [66, 67, 68, 69, 70, 71, 72, 73, 74, 75]
  [fun v _ => v = .agg (fd.cells sv), fun v w' => FdsI w' v [fd], fun v _ => v = .pointer (some ⟨b9, 0 + 3, none⟩), fun v _ => v = .slice (some ⟨k2, off2, none⟩) n2 cap2, fun v _ => v = .int .i64 ((i : Nat) : Int), fun v _ => v = .pointer (some ⟨k2, off2 + i * 5, none⟩), fun v _ => v = .agg cx, fun v w' => ∃ g, ElemsI w' v 1 5 g /\ TreeI w' (g 0) xi, fun v w' => ∃ cb : Array Value, v = .agg cb /\ cb.size = 5 /\ TreeI w' (from' cb 0) (.mk 0 [] false [xi] [])]
  (fun v _ => v = .bool true)
  ?_ ?_ (by simp [regFormT]) (by decide) (fun d hd => by rw [hN]; simp at hd; omega) (by simp) (by kernel_rfl) ⟨?_, ?_, ?_, ?_, ?_, ?_, ?_, ?_, ?_, ?_, trivial⟩ ?_
 ·intro g hg u1 w1 w2 hv hr
  simp only [List.mem_cons, List.not_mem_nil, or_false] at hg
  rcases hg with rfl | rfl | rfl | rfl | rfl | rfl | rfl | rfl | rfl
  ·exact hv
  ·exact hv.mod hr
  ·exact hv
  ·exact hv
  ·exact hv
  ·exact hv
  ·exact hv
  ·obtain ⟨g, q1, q2⟩ := hv
   exact ⟨g, q1.mod hr, q2.mod hr⟩
  ·obtain ⟨cb, q1, q2, q3⟩ := hv
   exact ⟨cb, q1, q2, q3.mod hr⟩
 ·intro u1 w1 w2 hv hr
  exact hv
 ·intro a1 w1 hr hp hs hd
  have t1 := (hs.get 12 (by decide)).trans g12
  have k1 := hr.some h12 (fun f => f)
  refine Zw (x_loadN (cs := (fd.cells sv).toList) (b := b12) (o := 0) (by kernel_rfl) (by rw [Ze]; exact t1) (fun j v hv => by rw [Zc k1, Nat.zero_add]; simpa using hv)) ⟨_, rfl, relp_ne (by rfl) (.refl _), by simp⟩
 ·intro a1 w1 hr hp hs hd
  have t0 : Act.get a1 66 = .agg (fd.cells sv) := hd ⟨0, .data⟩ (by simp) rfl
  refine Zw (x_buildSlice1 (e := 56) (sz := 8) (v := .agg (fd.cells sv)) (by kernel_rfl) (by rw [Ze]; exact t0) rfl) ⟨_, rfl, relp_ne (by rfl) ((Mod.refl _).alloc _), ?_⟩
  have hm' : Mod none' w1 (w1.alloc (.cells (Value.agg (fd.cells sv)).cells 56)) := (Mod.refl _).alloc _
  refine .mk (fc := fun i j => (fd.cells sv).getD j undef) (sv := fun _ => sv) (.inr ⟨w1.heap.size, 0, 1, _, _, (0, 0), rfl, by simp, by simp [maxLen], Zh w1 _, fun i hi j hj => ?_⟩) (fun i hi j hj => ?_) (fun i hi => ?_)
  ·have : i = 0 := by simp at hi; omega
   subst this
   show (fd.cells sv)[0 + 0 * 8 + j]? = _
   rw [show 0 + 0 * 8 + j = j by omega, Array.getElem?_eq_getElem (by simp [FD.cells]; omega)]
   simp [Array.getD, FD.cells, hj]
  ·have : i = 0 := by simp at hi; omega
   subst this
   show (fd.cells sv)[j]? = _
   rw [Array.getElem?_eq_getElem (by simp [FD.cells]; omega)]
   simp [Array.getD, FD.cells, hj]
  ·have : i = 0 := by simp at hi; omega
   subst this
   exact (hsub.mod hr).mod hm'
 ·intro a1 w1 hr hp hs hd
  have t1 := (hs.get 9 (by decide)).trans g9
  exact Zw (Za (o := 3) (by kernel_rfl) (b := b9) (o0 := 0) (by rw [Ze]; exact t1)) ⟨_, rfl, relp_ne (by rfl) (.refl _), rfl⟩
 ·intro a1 w1 hr hp hs hd
  have t1 : Act.get a1 68 = .pointer (some ⟨b9, 0 + 3, none⟩) := hd ⟨2, .data⟩ (by simp) rfl
  have k1 := hr.some h9 (fun f => f)
  exact Zw (Zl (by kernel_rfl) (b := b9) (o := 0 + 3) (v := .slice (some ⟨k2, off2, none⟩) n2 cap2) (by rw [Ze]; exact t1) (by rw [Zc k1]; exact hX3)) ⟨_, rfl, relp_ne (by rfl) (.refl _), rfl⟩
 ·intro a1 w1 hr hp hs hd
  have t1 := (hs.get 11 (by decide)).trans g11
  exact Zw (x_moveV t1) ⟨_, rfl, relp_ne (by rfl) (.refl _), rfl⟩
 ·intro a1 w1 hr hp hs hd
  have t1 : Act.get a1 69 = .slice (some ⟨k2, off2, none⟩) (n2) (cap2) := hd ⟨3, .data⟩ (by simp) rfl
  have t2 : Act.get a1 70 = .int .i64 ((i : Nat) : Int) := hd ⟨4, .data⟩ (by simp) rfl
  exact Zw (Zx (sz := 5) (i := i) (b := k2) (o := off2) (n := n2) (cap := cap2) (k := .i64) (by kernel_rfl) (by rw [Ze]; exact t1) (by rw [Ze]; exact t2) hi2) ⟨_, rfl, relp_ne (by rfl) (.refl _), rfl⟩
 ·intro a1 w1 hr hp hs hd
  have t1 : Act.get a1 71 = .pointer (some ⟨k2, off2 + i * 5, none⟩) := hd ⟨5, .data⟩ (by simp) rfl
  have k1 := hr.some hk2 (fun f => f)
  refine Zw (x_loadN (cs := cx.toList) (b := k2) (o := off2 + i * 5) (by rw [Array.length_toList, hcx]; kernel_rfl) (by rw [Ze]; exact t1) (fun j v hv => by rw [Zc k1]; exact hC2 j v hv)) ⟨_, rfl, relp_ne (by rfl) (.refl _), by simp⟩
 ·intro a1 w1 hr hp hs hd
  have t6 : Act.get a1 72 = .agg cx := hd ⟨6, .data⟩ (by simp) rfl
  refine Zw (x_buildSlice1 (e := 26) (sz := 5) (v := .agg cx) (by kernel_rfl) (by rw [Ze]; exact t6) hcx) ⟨_, rfl, relp_ne (by rfl) ((Mod.refl _).alloc _), fun i j => from' cx 0 j, ?_, (hx.mod hr).mod ((Mod.refl _).alloc _)⟩
  refine .inr ⟨w1.heap.size, 0, 1, _, _, (0, 0), rfl, by simp, by simp [maxLen], Zh w1 _, fun i hi j hj => ?_⟩
  have : i = 0 := by omega
  subst this
  show cx[0 + 0 * 5 + j]? = _
  rw [show 0 + 0 * 5 + j = j by omega, Array.getElem?_eq_getElem (by omega)]
  simp [from', hcx, hj]
 ·intro a1 w1 hr hp hs hd
  obtain ⟨g, t7, t7x⟩ : ∃ g, ElemsI w1 (Act.get a1 73) 1 5 g /\ TreeI w1 (g 0) xi := hd ⟨7, .data⟩ (by simp) rfl
  refine Zw (x_build (cells := #[.int .i64 0, .slice none 0 0, .bool false, Act.get a1 73, .slice none 0 0]) ?_) ⟨_, rfl, relp_ne (by rfl) (.refl _), _, rfl, rfl, ?_⟩
  ·simp only [List.map_toArray, List.map_cons, List.map_nil, Ze]
   obtain ⟨qa, qc, hq⟩ := t7.slice
   rw [hq]
   kernel_rfl
  ·exact tree_one t7 t7x
 ·intro a1 w1 hr hp hs hd
  have q1 : FdsI w1 (Act.get a1 67) [fd] := hd ⟨1, .data⟩ (by simp) rfl
  obtain ⟨cb, q8, hcb, hxb⟩ : ∃ cb : Array Value, Act.get a1 74 = .agg cb /\ cb.size = 5 /\ TreeI w1 (from' cb 0) (.mk 0 [] false [xi] []) := hd ⟨8, .data⟩ (by simp) rfl
  have e1 : (#[.tmp 67, .tmp 74] : Array Operand).map a1.eval = #[Act.get a1 67, .agg cb] := by simp [Ze, q8]
  refine owp_call (Zy (by kernel_rfl) rfl) (by rw [e1]; exact hT _ _ _ hr q1 hcb hxb) ?_
  rintro e w2 ⟨rfl, hm⟩
  exact ⟨_, rfl, _, rfl, relp_eq hm, rfl⟩
 ·intro a1 w1 hr hs hh
  have q3 : Act.get a1 75 = .bool true := hh 9 (by simp)
  refine Zv rfl (x_notV (b := true) (c := false) (by rw [Ze]; exact q3) rfl) (wpList_nil ⟨rfl, (hs.sub (by decide)).puts (by decide) _, hr, ?_⟩)
  rw [Zq (by rw [hs.size, hN]; decide)]
set_option maxRecDepth 100000 in
set_option maxHeartbeats 1000000 in
/-- 'got.U[i].Key != u.Key || !Same(got.U[i].Val, whole(u.Val))' -/
theorem Told_tag {w : World} {a : Act} {b9 b16 k2 off2 n2 cap2 i : Nat} {key : Int} {xv uv : Value} {X C2 Y : Array Value} {us : List UInt8} {T9 T16 Tk2 : TypeId} {fr2 : Nat × Nat} {id : Nat} {y0 y1 y2 y3 y4 y5 y6 y7 y8 y9 y10 y11 y12 y13 y14 y15 y16 y17 y18 y19 y20 y21 ya8 yb8 ya20 : TypeId} {p0 p1 p2 p3 p4 p5 p6 p7 p8 p9 p10 p11 p12 p13 p14 p15 p16 p17 p18 p19 p20 p21 : String} {ts18 ts19 : Array TypeId} (hN : a.tmps.size = 120)
  (g9 : Act.get a 9 = .pointer (some ⟨b9, 0, none⟩)) (g15 : Act.get a 15 = .int .i64 ((i : Nat) : Int)) (g16 : Act.get a 16 = .pointer (some ⟨b16, 0, none⟩))
  (h9 : w.heap[b9]? = some (.cells X T9 (0, 0))) (hX4 : X[0 + 4]? = some (.slice (some ⟨k2, off2, none⟩) n2 cap2)) (hi2 : i < n2)
  (hk2 : w.heap[k2]? = some (.cells C2 Tk2 fr2)) (hC0 : C2[off2 + i * 2 + 0]? = some (.int .u32 key)) (hC1 : C2[off2 + i * 2 + 1]? = some xv) (h16 : w.heap[b16]? = some (.cells Y T16 (0, 0))) (hY0 : Y[0 + 0]? = some (.int .u32 key)) (hY1 : Y[0 + 1]? = some uv)
  (hu : OctI w uv us) (hxo : OctI w xv (whole us)) :
  (Code.region id #[⟨some 97, .fieldAddr 26 (.tmp 9) 4, y0, p0, #[], none⟩,
   ⟨some 98, .load 24 (.tmp 97), y1, p1, #[⟨0, .data⟩], none⟩,
   ⟨some 99, .move (.tmp 15), y2, p2, #[], none⟩,
   ⟨some 100, .indexAddr 24 (.tmp 98) (.tmp 99), y3, p3, #[⟨1, .data⟩, ⟨2, .data⟩], none⟩,
   ⟨some 101, .fieldAddr 70 (.tmp 100) 0, y4, p4, #[⟨3, .data⟩], none⟩,
   ⟨some 102, .load 68 (.tmp 101), y5, p5, #[⟨4, .data⟩], none⟩,
   ⟨some 103, .fieldAddr 70 (.tmp 16) 0, y6, p6, #[], none⟩,
   ⟨some 104, .load 68 (.tmp 103), y7, p7, #[⟨6, .data⟩], none⟩,
   ⟨some 105, .binOp .neq ya8 (.tmp 102) (.tmp 104) yb8, y8, p8, #[⟨5, .data⟩, ⟨7, .data⟩], none⟩,
   ⟨some 106, .move (.tmp 105), y9, p9, #[⟨8, .data⟩], none⟩,
   ⟨some 107, .fieldAddr 26 (.tmp 9) 4, y10, p10, #[⟨9, .guard⟩], some (9, false)⟩,
   ⟨some 108, .load 24 (.tmp 107), y11, p11, #[⟨10, .data⟩, ⟨9, .guard⟩], some (9, false)⟩,
   ⟨some 109, .move (.tmp 15), y12, p12, #[⟨9, .guard⟩], some (9, false)⟩,
   ⟨some 110, .indexAddr 24 (.tmp 108) (.tmp 109), y13, p13, #[⟨11, .data⟩, ⟨12, .data⟩, ⟨9, .guard⟩], some (9, false)⟩,
   ⟨some 111, .fieldAddr 70 (.tmp 110) 1, y14, p14, #[⟨13, .data⟩, ⟨9, .guard⟩], some (9, false)⟩,
   ⟨some 112, .load 22 (.tmp 111), y15, p15, #[⟨14, .data⟩, ⟨9, .guard⟩], some (9, false)⟩,
   ⟨some 113, .fieldAddr 70 (.tmp 16) 1, y16, p16, #[⟨9, .guard⟩], some (9, false)⟩,
   ⟨some 114, .load 22 (.tmp 113), y17, p17, #[⟨16, .data⟩, ⟨9, .guard⟩], some (9, false)⟩,
   ⟨some 115, .call ⟨.value (.func 57), #[.tmp 114], ts18⟩, y18, p18, #[⟨17, .data⟩, ⟨9, .chain⟩, ⟨9, .guard⟩], some (9, false)⟩,
   ⟨some 116, .call ⟨.value (.func 42), #[.tmp 112, .tmp 115], ts19⟩, y19, p19, #[⟨15, .data⟩, ⟨18, .data⟩, ⟨18, .chain⟩, ⟨9, .guard⟩], some (9, false)⟩,
   ⟨some 117, .unOp .not ya20 (.tmp 116), y20, p20, #[⟨19, .data⟩, ⟨9, .guard⟩], some (9, false)⟩,
   ⟨some 118, .pick (.tmp 106) (.const (.bool true)) (.tmp 117), y21, p21, #[⟨9, .data⟩, ⟨20, .data⟩], none⟩] true).wp Tryz.prog
  (fun e a' w' => e = .normal /\ SameBut (fun t => t ∈ [97, 98, 99, 100, 101, 102, 103, 104, 105, 106, 107, 108, 109, 110, 111, 112, 113, 114, 115, 116, 117, 118]) a a' /\ Mod none' w w' /\ Act.get a' 118 = .bool false) a w := by
 refine region_rlg (l := [_, _, _, _, _, _, _, _, _, _, _, _, _, _, _, _, _, _, _, _, _]) (tl := [_]) rfl (Mod none') (Mod.refl w).drew (fun a => .refl a) (fun _ _ _ h h' => h.trans h') [97, 98, 99, 100, 101, 102, 103, 104, 105, 106, 107, 108, 109, 110, 111, 112, 113, 114, 115, 116, 117]
  [fun v _ => v = .pointer (some ⟨b9, 0 + 4, none⟩), fun v _ => v = .slice (some ⟨k2, off2, none⟩) n2 cap2, fun v _ => v = .int .i64 ((i : Nat) : Int), fun v _ => v = .pointer (some ⟨k2, off2 + i * 2, none⟩), fun v _ => v = .pointer (some ⟨k2, off2 + i * 2 + 0, none⟩), fun v _ => v = .int .u32 key, fun v _ => v = .pointer (some ⟨b16, 0 + 0, none⟩), fun v _ => v = .int .u32 key, fun v _ => v = .bool false, fun v _ => v = .bool false, fun v _ => v = .pointer (some ⟨b9, 0 + 4, none⟩), fun v _ => v = .slice (some ⟨k2, off2, none⟩) n2 cap2, fun v _ => v = .int .i64 ((i : Nat) : Int), fun v _ => v = .pointer (some ⟨k2, off2 + i * 2, none⟩), fun v _ => v = .pointer (some ⟨k2, off2 + i * 2 + 1, none⟩), fun v _ => v = xv, fun v _ => v = .pointer (some ⟨b16, 0 + 1, none⟩), fun v _ => v = uv, fun v w' => OctI w' v (whole us), fun v _ => v = .bool true, fun v _ => v = .bool false]
  ?_ (by rfl) (by decide) (fun d hd => by rw [hN]; simp at hd; omega) (by simp) (by kernel_rfl) ⟨?_, ?_, ?_, ?_, ?_, ?_, ?_, ?_, ?_, ?_, ?_, ?_, ?_, ?_, ?_, ?_, ?_, ?_, ?_, ?_, ?_, trivial⟩ ?_
 ·intro g hg u1 w1 w2 hv hr
  simp only [List.mem_cons, List.not_mem_nil, or_false] at hg
  rcases hg with rfl | rfl | rfl | rfl | rfl | rfl | rfl | rfl | rfl | rfl | rfl | rfl | rfl | rfl | rfl | rfl | rfl | rfl | rfl | rfl | rfl
  ·exact hv
  ·exact hv
  ·exact hv
  ·exact hv
  ·exact hv
  ·exact hv
  ·exact hv
  ·exact hv
  ·exact hv
  ·exact hv
  ·exact hv
  ·exact hv
  ·exact hv
  ·exact hv
  ·exact hv
  ·exact hv
  ·exact hv
  ·exact hv
  ·exact hv.mod hr
  ·exact hv
  ·exact hv
 ·intro a1 w1 hr hs hd
  refine .inl ⟨rfl, ?_⟩
  have t1 := (hs.get 9 (by decide)).trans g9
  exact Zw (Za (o := 4) (by kernel_rfl) (b := b9) (o0 := 0) (by rw [Ze]; exact t1)) ⟨_, rfl, (.refl _), rfl⟩
 ·intro a1 w1 hr hs hd
  refine .inl ⟨rfl, ?_⟩
  have t1 : Act.get a1 97 = .pointer (some ⟨b9, 0 + 4, none⟩) := hd ⟨0, .data⟩ (by simp) rfl
  have k1 := hr.some h9 (fun f => f)
  exact Zw (Zl (by kernel_rfl) (b := b9) (o := 0 + 4) (v := .slice (some ⟨k2, off2, none⟩) n2 cap2) (by rw [Ze]; exact t1) (by rw [Zc k1]; exact hX4)) ⟨_, rfl, (.refl _), rfl⟩
 ·intro a1 w1 hr hs hd
  refine .inl ⟨rfl, ?_⟩
  have t1 := (hs.get 15 (by decide)).trans g15
  exact Zw (x_moveV t1) ⟨_, rfl, (.refl _), rfl⟩
 ·intro a1 w1 hr hs hd
  refine .inl ⟨rfl, ?_⟩
  have t1 : Act.get a1 98 = .slice (some ⟨k2, off2, none⟩) (n2) (cap2) := hd ⟨1, .data⟩ (by simp) rfl
  have t2 : Act.get a1 99 = .int .i64 ((i : Nat) : Int) := hd ⟨2, .data⟩ (by simp) rfl
  exact Zw (Zx (sz := 2) (i := i) (b := k2) (o := off2) (n := n2) (cap := cap2) (k := .i64) (by kernel_rfl) (by rw [Ze]; exact t1) (by rw [Ze]; exact t2) hi2) ⟨_, rfl, (.refl _), rfl⟩
 ·intro a1 w1 hr hs hd
  refine .inl ⟨rfl, ?_⟩
  have t1 : Act.get a1 100 = .pointer (some ⟨k2, off2 + i * 2, none⟩) := hd ⟨3, .data⟩ (by simp) rfl
  exact Zw (Za (o := 0) (by kernel_rfl) (b := k2) (o0 := off2 + i * 2) (by rw [Ze]; exact t1)) ⟨_, rfl, (.refl _), rfl⟩
 ·intro a1 w1 hr hs hd
  refine .inl ⟨rfl, ?_⟩
  have t1 : Act.get a1 101 = .pointer (some ⟨k2, off2 + i * 2 + 0, none⟩) := hd ⟨4, .data⟩ (by simp) rfl
  have k1 := hr.some hk2 (fun f => f)
  exact Zw (Zl (by kernel_rfl) (b := k2) (o := off2 + i * 2 + 0) (v := .int .u32 key) (by rw [Ze]; exact t1) (by rw [Zc k1]; exact hC0)) ⟨_, rfl, (.refl _), rfl⟩
 ·intro a1 w1 hr hs hd
  refine .inl ⟨rfl, ?_⟩
  have t1 := (hs.get 16 (by decide)).trans g16
  exact Zw (Za (o := 0) (by kernel_rfl) (b := b16) (o0 := 0) (by rw [Ze]; exact t1)) ⟨_, rfl, (.refl _), rfl⟩
 ·intro a1 w1 hr hs hd
  refine .inl ⟨rfl, ?_⟩
  have t1 : Act.get a1 103 = .pointer (some ⟨b16, 0 + 0, none⟩) := hd ⟨6, .data⟩ (by simp) rfl
  have k1 := hr.some h16 (fun f => f)
  exact Zw (Zl (by kernel_rfl) (b := b16) (o := 0 + 0) (v := .int .u32 key) (by rw [Ze]; exact t1) (by rw [Zc k1]; exact hY0)) ⟨_, rfl, (.refl _), rfl⟩
 ·intro a1 w1 hr hs hd
  refine .inl ⟨rfl, ?_⟩
  have t1 : Act.get a1 102 = .int .u32 key := hd ⟨5, .data⟩ (by simp) rfl
  have t2 : Act.get a1 104 = .int .u32 key := hd ⟨7, .data⟩ (by simp) rfl
  exact Zw (x_neqIs (k := .u32) (m := key) (by rw [Ze]; exact t1) (by rw [Ze]; exact t2)) ⟨_, rfl, .refl _, rfl⟩
 ·intro a1 w1 hr hs hd
  refine .inl ⟨rfl, ?_⟩
  have t1 : Act.get a1 105 = .bool false := hd ⟨8, .data⟩ (by simp) rfl
  exact Zw (x_moveV (by rw [Ze]; exact t1)) ⟨_, rfl, .refl _, rfl⟩
 ·intro a1 w1 hr hs hd
  refine .inl ⟨⟨by decide, false, hd ⟨9, .guard⟩ (by simp) rfl, by rfl⟩, ?_⟩
  have t1 := (hs.get 9 (by decide)).trans g9
  exact Zw (Za (o := 4) (by kernel_rfl) (b := b9) (o0 := 0) (by rw [Ze]; exact t1)) ⟨_, rfl, (.refl _), rfl⟩
 ·intro a1 w1 hr hs hd
  refine .inl ⟨⟨by decide, false, hd ⟨9, .guard⟩ (by simp) rfl, by rfl⟩, ?_⟩
  have t1 : Act.get a1 107 = .pointer (some ⟨b9, 0 + 4, none⟩) := hd ⟨10, .data⟩ (by simp) rfl
  have k1 := hr.some h9 (fun f => f)
  exact Zw (Zl (by kernel_rfl) (b := b9) (o := 0 + 4) (v := .slice (some ⟨k2, off2, none⟩) n2 cap2) (by rw [Ze]; exact t1) (by rw [Zc k1]; exact hX4)) ⟨_, rfl, (.refl _), rfl⟩
 ·intro a1 w1 hr hs hd
  refine .inl ⟨⟨by decide, false, hd ⟨9, .guard⟩ (by simp) rfl, by rfl⟩, ?_⟩
  have t1 := (hs.get 15 (by decide)).trans g15
  exact Zw (x_moveV t1) ⟨_, rfl, (.refl _), rfl⟩
 ·intro a1 w1 hr hs hd
  refine .inl ⟨⟨by decide, false, hd ⟨9, .guard⟩ (by simp) rfl, by rfl⟩, ?_⟩
  have t1 : Act.get a1 108 = .slice (some ⟨k2, off2, none⟩) (n2) (cap2) := hd ⟨11, .data⟩ (by simp) rfl
  have t2 : Act.get a1 109 = .int .i64 ((i : Nat) : Int) := hd ⟨12, .data⟩ (by simp) rfl
  exact Zw (Zx (sz := 2) (i := i) (b := k2) (o := off2) (n := n2) (cap := cap2) (k := .i64) (by kernel_rfl) (by rw [Ze]; exact t1) (by rw [Ze]; exact t2) hi2) ⟨_, rfl, (.refl _), rfl⟩
 ·intro a1 w1 hr hs hd
  refine .inl ⟨⟨by decide, false, hd ⟨9, .guard⟩ (by simp) rfl, by rfl⟩, ?_⟩
  have t1 : Act.get a1 110 = .pointer (some ⟨k2, off2 + i * 2, none⟩) := hd ⟨13, .data⟩ (by simp) rfl
  exact Zw (Za (o := 1) (by kernel_rfl) (b := k2) (o0 := off2 + i * 2) (by rw [Ze]; exact t1)) ⟨_, rfl, (.refl _), rfl⟩
 ·intro a1 w1 hr hs hd
  refine .inl ⟨⟨by decide, false, hd ⟨9, .guard⟩ (by simp) rfl, by rfl⟩, ?_⟩
  have t1 : Act.get a1 111 = .pointer (some ⟨k2, off2 + i * 2 + 1, none⟩) := hd ⟨14, .data⟩ (by simp) rfl
  have k1 := hr.some hk2 (fun f => f)
  exact Zw (Zl (by kernel_rfl) (b := k2) (o := off2 + i * 2 + 1) (v := xv) (by rw [Ze]; exact t1) (by rw [Zc k1]; exact hC1)) ⟨_, rfl, (.refl _), rfl⟩
 ·intro a1 w1 hr hs hd
  refine .inl ⟨⟨by decide, false, hd ⟨9, .guard⟩ (by simp) rfl, by rfl⟩, ?_⟩
  have t1 := (hs.get 16 (by decide)).trans g16
  exact Zw (Za (o := 1) (by kernel_rfl) (b := b16) (o0 := 0) (by rw [Ze]; exact t1)) ⟨_, rfl, (.refl _), rfl⟩
 ·intro a1 w1 hr hs hd
  refine .inl ⟨⟨by decide, false, hd ⟨9, .guard⟩ (by simp) rfl, by rfl⟩, ?_⟩
  have t1 : Act.get a1 113 = .pointer (some ⟨b16, 0 + 1, none⟩) := hd ⟨16, .data⟩ (by simp) rfl
  have k1 := hr.some h16 (fun f => f)
  exact Zw (Zl (by kernel_rfl) (b := b16) (o := 0 + 1) (v := uv) (by rw [Ze]; exact t1) (by rw [Zc k1]; exact hY1)) ⟨_, rfl, (.refl _), rfl⟩
 ·intro a1 w1 hr hs hd
  refine .inl ⟨⟨by decide, false, hd ⟨9, .guard⟩ (by simp) rfl, by rfl⟩, ?_⟩
  have t1 : Act.get a1 114 = uv := hd ⟨17, .data⟩ (by simp) rfl
  have e1 : (#[.tmp 114] : Array Operand).map a1.eval = #[uv] := by simp [Ze, t1]
  refine owp_call (Zy (by kernel_rfl) rfl) (by rw [e1]; exact whole_c (hu.mod hr)) ?_
  rintro e w2 ⟨rfl, v', rfl, ho⟩
  exact ⟨_, rfl, _, rfl, .refl _, ho⟩
 ·intro a1 w1 hr hs hd
  refine .inl ⟨⟨by decide, false, hd ⟨9, .guard⟩ (by simp) rfl, by rfl⟩, ?_⟩
  have t1 : Act.get a1 112 = xv := hd ⟨15, .data⟩ (by simp) rfl
  have t2 : OctI w1 (Act.get a1 115) (whole us) := hd ⟨18, .data⟩ (by simp) rfl
  have e1 : (#[.tmp 112, .tmp 115] : Array Operand).map a1.eval = #[xv, Act.get a1 115] := by simp [Ze, t1]
  refine owp_call (Zy (by kernel_rfl) rfl) (by rw [e1]; exact same_octs ((hxo.mod hr).s) t2.s) ?_
  rintro e w2 ⟨rfl, hm⟩
  exact ⟨_, rfl, _, rfl, hm, rfl⟩
 ·intro a1 w1 hr hs hd
  refine .inl ⟨⟨by decide, false, hd ⟨9, .guard⟩ (by simp) rfl, by rfl⟩, ?_⟩
  have t1 : Act.get a1 116 = .bool true := hd ⟨19, .data⟩ (by simp) rfl
  exact Zw (x_notV (b := true) (c := false) (by rw [Ze]; exact t1) rfl) ⟨_, rfl, .refl _, rfl⟩
 ·intro a1 w1 hr hs hh
  have q3 : Act.get a1 106 = .bool false := hh 9 (by simp)
  have q4 : Act.get a1 117 = .bool false := hh 20 (by simp)
  refine Zv rfl (x_pickF (v := .bool false) (by rw [Ze]; exact q3) (by rw [Ze]; exact q4)) (wpList_nil ⟨rfl, (hs.sub (by decide)).puts (by decide) _, hr, ?_⟩)
  rw [Zq (by rw [hs.size, hN]; decide)]
theorem FD.has_iff {f : FD} {ver : Int} : f.has ver = true ↔ f.from_ <= ver /\ (f.to < 0 \/ ver <= f.to) := by simp [FD.has]
theorem toldsW_at : ∀ {fs : List FD} {j : Nat} {ver : Int} {fl : Bool} {t : Tr} {l : List Tr}, toldsW fs j ver fl t l = true -> l.length = fs.length /\ ∀ i (h : i < fs.length),
  (if (decide ((fs[i]).tag < 0) && (fs[i]).has ver) = true then toldW fs[i] ver fl (t.L.getD (j + i) .zero) (l.getD i .zero) else usualW fs[i] (l.getD i .zero)) = true
 | [], j, ver, fl, t, l, h => by
  have : l = [] := by simpa [toldsW] using h
  subst this
  exact ⟨rfl, fun i hi => by simp at hi⟩
 | f :: r, j, ver, fl, t, [], h => by simp [toldsW] at h
 | f :: r, j, ver, fl, t, x :: xs, h => by
  simp only [toldsW, Bool.and_eq_true] at h
  obtain ⟨h1, h2⟩ := toldsW_at h.2
  refine ⟨by simp [h1], fun i hi => ?_⟩
  cases i with
  | zero => simpa using h.1
  | succ i =>
   have := h2 i (by simpa using hi)
   rw [show j + 1 + i = j + (i + 1) by omega] at this
   simpa using this
def ToldOk (f : FD) : Prop := ∀ w sa sn sc cs cx t x ver flex, FdsI w (.slice sa sn sc) f.sub -> cs.size = 5 -> cx.size = 5 -> TreeI w (from' cs 0) t -> TreeI w (from' cx 0) x -> toldW f ver flex t x = true -> ToldC (f.cells (.slice sa sn sc)) cs cx ver flex w
theorem TreeI.tagsI {w : World} {c : Nat -> Value} {t : Tr} (h : TreeI w c t) : ∃ g, ElemsI w (c 4) t.U.length 2 g /\ ∀ i (h : i < t.U.length), g i 0 = .int .u32 (t.U[i]).1 /\ OctI w (g i 1) (t.U[i]).2 := by
 cases h with
 | @mk _ n s z l u f g h0 hn h1 h2 h3 h3' h4 h4' => exact ⟨g, h4, fun i h => ⟨(h4' i h).1, (h4' i h).2.2⟩⟩
set_option maxRecDepth 100000 in
set_option maxHeartbeats 16000000 in
theorem Told_c {w : World} {v : Value} {ct cx : Array Value} {fs : List FD} {ver : Int} {flex : Bool} {t x : Tr} (hok : ∀ f ∈ fs, ToldOk f) (hus : ∀ f ∈ fs, UsualOk f) (hpl : ∀ f ∈ fs, f.plain = true /\ f.dok = true) (hf : FdsI w v fs) (hct : ct.size = 5) (hcx : cx.size = 5) (ht : TreeI w (from' ct 0) t) (hx : TreeI w (from' cx 0) x)
  (hto : toldsW fs 0 ver flex t x.L = true) (htg : tagsTold flex t x = true) : ToldsC v ct cx ver flex w := by
 obtain ⟨xf, hEx, hLx⟩ := hx.L
 obtain ⟨xg, hEu, hXu⟩ := hx.tagsI
 obtain ⟨a1, c1, a3, c3, a4, c4, rfl, hfit, ho, ht'⟩ := TreeI.lit hct ht
 obtain ⟨a5, c5, a6, c6, a7, c7, rfl, hfx, hox, hx'⟩ := TreeI.lit hcx hx
 replace hEx : ElemsI w (.slice a6 x.L.length c6) x.L.length 5 xf := hEx
 replace hEu : ElemsI w (.slice a7 x.U.length c7) x.U.length 2 xg := hEu
 obtain ⟨hxl, hat⟩ := toldsW_at hto
 have hUu : x.U = (if flex then cutW (unkW t.U) else []) := by simpa [tagsTold] using htg
 obtain ⟨U, hUe⟩ : ∃ U, x.U = U := ⟨_, rfl⟩
 rw [hxl] at hEx ⊢
 have hXu' : ∀ i (h : i < U.length), xg i 0 = .int .u32 (U[i]).1 /\ OctI w (xg i 1) (U[i]).2 := by subst hUe; exact hXu
 clear hXu
 rw [hUe] at hEu hUu ⊢
 obtain ⟨ao, cap, rfl⟩ := hf.slice
 have hfl := hf.len
 have hun := fun W hm => unk_c hf (fun f h => by obtain ⟨k, fr, to, nl, g, d, o, sub⟩ := f; have := (hpl _ h).1; simp only [FD.plain, Bool.and_eq_true, decide_eq_true_eq] at this; exact this.1) ht W hm
 unfold ToldsC
 have HAT := Lib.hid hat
 have HUU := Lib.hid hUu
 have HXL := Lib.hid hxl
 have HLX := Lib.hid hLx
 have HXU := Lib.hid hXu'
 have hun' : ∀ W, Mod none' w W -> UnkC Tryz.prog 56 (.slice ao fs.length cap) (.slice a4 t.U.length c4) W (unkW t.U) := fun W hm => hun W hm
 have HUN := Lib.hid hun'
 clear ht hx hx' hct hcx hto htg hat hxl hLx hXu' hUu hUe hun hun' hox hfit ho hfx
 cases flex with
 | false =>
  go_enter Tryz.func17, Tryz.ntmps17
  go_wp2
  go_loopw [25] (fun i wr => ∃ k : Nat, k <= fs.length /\ i = .int .i64 k /\ Mod none' ((w.alloc (.cells #[.int .i64 t.N, .slice a1 t.S.length c1, .bool t.Z, .slice a3 t.L.length c3, .slice a4 t.U.length c4] 26)).alloc (.cells #[.int .i64 x.N, .slice a5 x.S.length c5, .bool x.Z, .slice a6 fs.length c6, .slice a7 U.length c7] 26)) wr) (fun i _ => fs.length - (Go.RowKit.intOf i).toNat)
  case atStart => exact ⟨0, by omega, rfl, .refl _⟩
  case round =>
   obtain ⟨k, hk, rfl, hm0⟩ := hrel
   have hm : Mod none' w wr := (((Mod.refl w).alloc _).alloc _).trans hm0
   by_cases hlt : k < fs.length
   ·have hB := (hm0.some (Zh (w.alloc _) _) (fun f => f))
    rw [show (w.alloc (.cells #[.int .i64 t.N, .slice a1 t.S.length c1, .bool t.Z, .slice a3 t.L.length c3, .slice a4 t.U.length c4] 26)).heap.size = w.heap.size + 1 by simp] at hB
    have hA0 := hm0.some ((heap_alloc_old (by simp) _).trans (Zh w (.cells #[.int .i64 t.N, .slice a1 t.S.length c1, .bool t.Z, .slice a3 t.L.length c3, .slice a4 t.U.length c4] 26))) (fun f => f)
    have b0' : wr.cell? ⟨w.heap.size, 0, none⟩ = some (.int .i64 t.N) := (Zc hA0).trans rfl
    have b1' : wr.cell? ⟨w.heap.size, 1, none⟩ = some (.slice a1 t.S.length c1) := (Zc hA0).trans rfl
    have b2' : wr.cell? ⟨w.heap.size, 2, none⟩ = some (.bool t.Z) := (Zc hA0).trans rfl
    have b3' : wr.cell? ⟨w.heap.size, 3, none⟩ = some (.slice a3 t.L.length c3) := (Zc hA0).trans rfl
    have b4' : wr.cell? ⟨w.heap.size, 4, none⟩ = some (.slice a4 t.U.length c4) := (Zc hA0).trans rfl
    have hws : w.heap.size + 1 < wr.heap.size := by have := hm0.size; simp at this; omega
    have hws0 : w.heap.size < wr.heap.size := by omega
    have hti := HAT.out k hlt
    obtain ⟨hplain, hdok⟩ := hpl _ (List.getElem_mem hlt)
    have hoki := hok _ (List.getElem_mem hlt)
    have husi := hus _ (List.getElem_mem hlt)
    have hpfd := hplain
    obtain ⟨_, kb, off, sa, sn, sc, rfl, C, Tk, fr', hC, hcells, hsub⟩ := (hf.mod hm).at' hlt
    obtain ⟨kb2, off2, rfl, D, Tk2, fr2, hD1, hD2⟩ := elems_at (hEx.mod hm) hlt
    have hix : k < x.L.length := by rw [HXL.out]; exact hlt
    obtain ⟨cb, hcb, hTb, hCb⟩ := elem_tree (HLX.out k hix) (fun j hj => hD2 k hlt j hj)
    have hgx : x.L.getD k .zero = x.L[k] := by rw [List.getD_eq_getElem?_getD, List.getElem?_eq_getElem hix]; rfl
    rw [hgx, Nat.zero_add] at hti
    generalize x.L[k] = xi at *
    obtain ⟨ti, hxi⟩ : ∃ ti, t.L.getD k .zero = ti := ⟨_, rfl⟩
    rw [hxi] at hti
    have HTI := Lib.hid hxi
    generalize fs[k] = fd at *
    obtain ⟨kd, fr, to, nl, g, d, o, sub⟩ := fd
    have f0 : wr.cell? ⟨kb, off + k * 8, none⟩ = some (.int .i64 kd) := by rw [Zc hC]; exact hcells 0 _ rfl
    have f1 : wr.cell? ⟨kb, off + k * 8 + 1, none⟩ = some (.int .i64 fr) := by rw [Zc hC]; exact hcells 1 _ rfl
    have f2 : wr.cell? ⟨kb, off + k * 8 + 2, none⟩ = some (.int .i64 to) := by rw [Zc hC]; exact hcells 2 _ rfl
    have f3 : wr.cell? ⟨kb, off + k * 8 + 3, none⟩ = some (.int .i64 nl) := by rw [Zc hC]; exact hcells 3 _ rfl
    have f4 : wr.cell? ⟨kb, off + k * 8 + 4, none⟩ = some (.int .i64 g) := by rw [Zc hC]; exact hcells 4 _ rfl
    have f5 : wr.cell? ⟨kb, off + k * 8 + 5, none⟩ = some (.int .i64 d) := by rw [Zc hC]; exact hcells 5 _ rfl
    have f6 : wr.cell? ⟨kb, off + k * 8 + 6, none⟩ = some (.int .i64 o) := by rw [Zc hC]; exact hcells 6 _ rfl
    have f7 : wr.cell? ⟨kb, off + k * 8 + 7, none⟩ = some (.slice sa sn sc) := by rw [Zc hC]; exact hcells 7 _ rfl
    simp only [FD.plain, Bool.and_eq_true, decide_eq_true_eq] at hplain
    have htag : g < 0 := hplain.1
    have HB9 := Lib.hid hB
    have H2 := Lib.hid hCb
    have HD1 := Lib.hid hD1
    have HS := Lib.hid hti
    have HSUB := Lib.hid hsub
    have HTB := Lib.hid hTb
    have HDK := Lib.hid hdok
    have HOK := Lib.hid hoki
    have HUS := Lib.hid husi
    have HPL := Lib.hid hpfd
    clear hC hcells hB hA0 hCb hD1 hD2 hti hplain hgx hsub hTb hdok hoki husi hpfd hxi hix
    go_wp2_with (first | (go_at_call 51; refine (at_c (hm.trans ((Mod.refl wr).alloc _)) rfl ht').mono ?_; rintro e w2 ⟨hm2, cs2, rfl, hcs2, ht2⟩; rw [HTI.out] at ht2; obtain ⟨b1, d1, b3, d3, b4, d4, rfl, hxn, hxo, ht3⟩ := TreeI.lit hcs2 ht2; clear hcs2 ht2; have hA : w2.heap[wr.heap.size]? = some (.cells #[.int .i64 kd, .int .i64 fr, .int .i64 to, .int .i64 nl, .int .i64 g, .int .i64 d, .int .i64 o, .slice sa sn sc] 56 (0, 0)) := hm2.some (Zh wr _) (fun f => f); have p0 : w2.cell? ⟨wr.heap.size, 0, none⟩ = some (.int .i64 kd) := (Zc hA).trans rfl; have p1 : w2.cell? ⟨wr.heap.size, 1, none⟩ = some (.int .i64 fr) := (Zc hA).trans rfl; have p2 : w2.cell? ⟨wr.heap.size, 2, none⟩ = some (.int .i64 to) := (Zc hA).trans rfl; have p3 : w2.cell? ⟨wr.heap.size, 3, none⟩ = some (.int .i64 nl) := (Zc hA).trans rfl; have p4 : w2.cell? ⟨wr.heap.size, 4, none⟩ = some (.int .i64 g) := (Zc hA).trans rfl; have p5 : w2.cell? ⟨wr.heap.size, 5, none⟩ = some (.int .i64 d) := (Zc hA).trans rfl; have p6 : w2.cell? ⟨wr.heap.size, 6, none⟩ = some (.int .i64 o) := (Zc hA).trans rfl; have p7 : w2.cell? ⟨wr.heap.size, 7, none⟩ = some (.slice sa sn sc) := (Zc hA).trans rfl; have hws2 : wr.heap.size < w2.heap.size := (by have := hm2.size; simp at this; omega); have HA := Lib.hid hA; clear hA) | (go_at_call 52; refine has_c.mono ?_; rintro e w3 ⟨bb, rfl, hb, hm3⟩; have HB := Lib.hid hb; clear hb; have p4' : w3.cell? ⟨wr.heap.size, 4, none⟩ = some (.int .i64 g) := (Zc (hm3.some ((heap_alloc_old (by omega) _).trans HA.out) (fun f => f))).trans rfl; cases bb))
    ·rename_i K hK _
     have hh : FD.has (.mk kd fr to nl g d o sub) ver = false := by
      cases hc : FD.has (.mk kd fr to nl g d o sub) ver
      ·rfl
      ·have h9 := HB.out.2 (FD.has_iff.1 hc)
       first | exact h9.elim | (cases h9)
     have hui : usualW (.mk kd fr to nl g d o sub) xi = true := by
      have h := HS.out
      rw [hh] at h
      simpa using h
     have hmA : Mod none' w w3 := ((hm.trans ((Mod.refl wr).alloc _)).trans hm2).trans (((Mod.refl w2).alloc _).trans hm3)
     have hmB : Mod none' wr w3 := (((Mod.refl wr).alloc _).trans hm2).trans (((Mod.refl w2).alloc _).trans hm3)
     refine wp_mono (Told_usual (b9 := w.heap.size + 1) (b12 := wr.heap.size) (k2 := kb2) (off2 := off2) (n2 := fs.length) (cap2 := c6) (i := k) (fd := .mk kd fr to nl g d o sub) (sv := .slice sa sn sc) (cx := cb) (xi := xi) rfl rfl rfl rfl (hm3.some ((heap_alloc_old (by omega) _).trans HA.out) (fun f => f)) (hmB.some HB9.out (fun f => f)) rfl hlt (hmB.some HD1.out (fun f => f)) H2.out hcb (HTB.out.mod hmA) (HSUB.out.mod hmB)
      (fun W v' cb' hmW hfv hcb' hxb => usual_c (fun f hf' => by simp only [List.mem_singleton] at hf'; subst hf'; exact HUS.out) (fun f hf' => by simp only [List.mem_singleton] at hf'; subst hf'; exact ⟨HPL.out, HDK.out⟩) hfv hcb' hxb rfl (by show usualsW [_] [xi] = true; simp [usualsW, hui]))) ?_
     rintro e a' w4 ⟨rfl, hs4, hm4, h76⟩
     refine hK a' w4 ?_
     have e := hs4.eq
     simp only [List.foldl] at e
     rw [h76] at e
     rw [e]
     generalize Act.get a' 66 = v66, Act.get a' 67 = v67, Act.get a' 68 = v68, Act.get a' 69 = v69, Act.get a' 70 = v70, Act.get a' 71 = v71, Act.get a' 72 = v72, Act.get a' 73 = v73, Act.get a' 74 = v74, Act.get a' 75 = v75
     clear e hs4 h76
     simp only [Act.put, List.setIfInBounds_toArray, List.set_cons_succ, List.set_cons_zero]
     have hm6 := (hm0.trans hmB).trans hm4
     go_wp2
     go_roundw
     case rel => exact ⟨k + 1, by omega, by go_num, hm6⟩
     case measure => first | omega | (simp [Go.RowKit.intOf]; omega)
    ·rename_i K hK
     have hh : FD.has (.mk kd fr to nl g d o sub) ver = true := by
      exact FD.has_iff.2 (HB.out.1 (by first | rfl | trivial))
     have hui : toldW (.mk kd fr to nl g d o sub) ver false ti xi = true := by
      have h := HS.out
      rw [hh] at h
      simpa [FD.tag, htag] using h
     have hmA : Mod none' w w3 := ((hm.trans ((Mod.refl wr).alloc _)).trans hm2).trans (((Mod.refl w2).alloc _).trans hm3)
     have hmB : Mod none' wr w3 := (((Mod.refl wr).alloc _).trans hm2).trans (((Mod.refl w2).alloc _).trans hm3)
     refine wp_mono (Told_elem (b9 := w.heap.size + 1) (b12 := wr.heap.size) (b13 := w2.heap.size) (k2 := kb2) (off2 := off2) (n2 := fs.length) (cap2 := c6) (i := k) (ver := ver) (flex := false) (cx := cb) rfl rfl rfl rfl rfl rfl rfl (hm3.some ((heap_alloc_old (by omega) _).trans HA.out) (fun f => f)) rfl (hm3.some (Zh w2 _) (fun f => f)) rfl (hmB.some HB9.out (fun f => f)) rfl hlt (hmB.some HD1.out (fun f => f)) H2.out hcb
      (fun W hmW => HOK.out W sa sn sc _ cb ti xi ver false ((HSUB.out.mod hmB).mod hmW) rfl hcb (ht3.mod (hmA.trans hmW)) (HTB.out.mod (hmA.trans hmW)) hui)) ?_
     rintro e a' w4 ⟨rfl, hs4, hm4, h65⟩
     refine hK a' w4 ?_
     have e := hs4.eq
     simp only [List.foldl] at e
     rw [h65] at e
     rw [e]
     generalize Act.get a' 55 = v55, Act.get a' 56 = v56, Act.get a' 57 = v57, Act.get a' 58 = v58, Act.get a' 59 = v59, Act.get a' 60 = v60, Act.get a' 61 = v61, Act.get a' 62 = v62, Act.get a' 63 = v63, Act.get a' 64 = v64
     clear e hs4 h65
     simp only [Act.put, List.setIfInBounds_toArray, List.set_cons_succ, List.set_cons_zero]
     have hm6 := (hm0.trans hmB).trans hm4
     go_wp2
     go_roundw
     case rel => exact ⟨k + 1, by omega, by go_num, hm6⟩
     case measure => first | omega | (simp [Go.RowKit.intOf]; omega)
   ·have ba4 : wr.cell? ⟨w.heap.size, 4, none⟩ = some (.slice a4 t.U.length c4) := by
     have hA0 := hm0.some ((heap_alloc_old (by simp) _).trans (Zh w (.cells #[.int .i64 t.N, .slice a1 t.S.length c1, .bool t.Z, .slice a3 t.L.length c3, .slice a4 t.U.length c4] 26))) (fun f => f)
     exact (Zc hA0).trans rfl
    clear hok hus hpl
    have hU0 := HUU.out
    go_wp2_with (go_at_call 56; refine (HUN.out wr hm).mono ?_; rintro e w5 ⟨rv, gg, rfl, hm5, hel, hgg⟩; obtain ⟨ra, rc, rfl⟩ := hel.slice; have hm05 := hm0.trans hm5; have hB := (hm05.some (Zh (w.alloc _) _) (fun f => f)); rw [show (w.alloc (.cells #[.int .i64 t.N, .slice a1 t.S.length c1, .bool t.Z, .slice a3 t.L.length c3, .slice a4 t.U.length c4] 26)).heap.size = w.heap.size + 1 by simp] at hB; have x4 : w5.cell? ⟨w.heap.size + 1, 4, none⟩ = some (.slice a7 0 c7) := ((Zc hB).trans (by rw [hU0]; rfl)); have HB9 := Lib.hid hB; clear hB)
    go_loopw [92] (fun i wr2 => i = .int .i64 0 /\ Mod none' w5 wr2) (fun i _ => 0)
    case atStart => exact ⟨rfl, .refl _⟩
    case round =>
     obtain ⟨rfl, hm2⟩ := hrel
     go_wp2
     go_ret
     exact ⟨rfl, hm.trans (hm5.trans hm2)⟩
 | true =>
  go_enter Tryz.func17, Tryz.ntmps17
  go_wp2
  go_loopw [25] (fun i wr => ∃ k : Nat, k <= fs.length /\ i = .int .i64 k /\ Mod none' ((w.alloc (.cells #[.int .i64 t.N, .slice a1 t.S.length c1, .bool t.Z, .slice a3 t.L.length c3, .slice a4 t.U.length c4] 26)).alloc (.cells #[.int .i64 x.N, .slice a5 x.S.length c5, .bool x.Z, .slice a6 fs.length c6, .slice a7 U.length c7] 26)) wr) (fun i _ => fs.length - (Go.RowKit.intOf i).toNat)
  case atStart => exact ⟨0, by omega, rfl, .refl _⟩
  case round =>
   obtain ⟨k, hk, rfl, hm0⟩ := hrel
   have hm : Mod none' w wr := (((Mod.refl w).alloc _).alloc _).trans hm0
   by_cases hlt : k < fs.length
   ·have hB := (hm0.some (Zh (w.alloc _) _) (fun f => f))
    rw [show (w.alloc (.cells #[.int .i64 t.N, .slice a1 t.S.length c1, .bool t.Z, .slice a3 t.L.length c3, .slice a4 t.U.length c4] 26)).heap.size = w.heap.size + 1 by simp] at hB
    have hA0 := hm0.some ((heap_alloc_old (by simp) _).trans (Zh w (.cells #[.int .i64 t.N, .slice a1 t.S.length c1, .bool t.Z, .slice a3 t.L.length c3, .slice a4 t.U.length c4] 26))) (fun f => f)
    have b0' : wr.cell? ⟨w.heap.size, 0, none⟩ = some (.int .i64 t.N) := (Zc hA0).trans rfl
    have b1' : wr.cell? ⟨w.heap.size, 1, none⟩ = some (.slice a1 t.S.length c1) := (Zc hA0).trans rfl
    have b2' : wr.cell? ⟨w.heap.size, 2, none⟩ = some (.bool t.Z) := (Zc hA0).trans rfl
    have b3' : wr.cell? ⟨w.heap.size, 3, none⟩ = some (.slice a3 t.L.length c3) := (Zc hA0).trans rfl
    have b4' : wr.cell? ⟨w.heap.size, 4, none⟩ = some (.slice a4 t.U.length c4) := (Zc hA0).trans rfl
    have hws : w.heap.size + 1 < wr.heap.size := by have := hm0.size; simp at this; omega
    have hws0 : w.heap.size < wr.heap.size := by omega
    have hti := HAT.out k hlt
    obtain ⟨hplain, hdok⟩ := hpl _ (List.getElem_mem hlt)
    have hoki := hok _ (List.getElem_mem hlt)
    have husi := hus _ (List.getElem_mem hlt)
    have hpfd := hplain
    obtain ⟨_, kb, off, sa, sn, sc, rfl, C, Tk, fr', hC, hcells, hsub⟩ := (hf.mod hm).at' hlt
    obtain ⟨kb2, off2, rfl, D, Tk2, fr2, hD1, hD2⟩ := elems_at (hEx.mod hm) hlt
    have hix : k < x.L.length := by rw [HXL.out]; exact hlt
    obtain ⟨cb, hcb, hTb, hCb⟩ := elem_tree (HLX.out k hix) (fun j hj => hD2 k hlt j hj)
    have hgx : x.L.getD k .zero = x.L[k] := by rw [List.getD_eq_getElem?_getD, List.getElem?_eq_getElem hix]; rfl
    rw [hgx, Nat.zero_add] at hti
    generalize x.L[k] = xi at *
    obtain ⟨ti, hxi⟩ : ∃ ti, t.L.getD k .zero = ti := ⟨_, rfl⟩
    rw [hxi] at hti
    have HTI := Lib.hid hxi
    generalize fs[k] = fd at *
    obtain ⟨kd, fr, to, nl, g, d, o, sub⟩ := fd
    have f0 : wr.cell? ⟨kb, off + k * 8, none⟩ = some (.int .i64 kd) := by rw [Zc hC]; exact hcells 0 _ rfl
    have f1 : wr.cell? ⟨kb, off + k * 8 + 1, none⟩ = some (.int .i64 fr) := by rw [Zc hC]; exact hcells 1 _ rfl
    have f2 : wr.cell? ⟨kb, off + k * 8 + 2, none⟩ = some (.int .i64 to) := by rw [Zc hC]; exact hcells 2 _ rfl
    have f3 : wr.cell? ⟨kb, off + k * 8 + 3, none⟩ = some (.int .i64 nl) := by rw [Zc hC]; exact hcells 3 _ rfl
    have f4 : wr.cell? ⟨kb, off + k * 8 + 4, none⟩ = some (.int .i64 g) := by rw [Zc hC]; exact hcells 4 _ rfl
    have f5 : wr.cell? ⟨kb, off + k * 8 + 5, none⟩ = some (.int .i64 d) := by rw [Zc hC]; exact hcells 5 _ rfl
    have f6 : wr.cell? ⟨kb, off + k * 8 + 6, none⟩ = some (.int .i64 o) := by rw [Zc hC]; exact hcells 6 _ rfl
    have f7 : wr.cell? ⟨kb, off + k * 8 + 7, none⟩ = some (.slice sa sn sc) := by rw [Zc hC]; exact hcells 7 _ rfl
    simp only [FD.plain, Bool.and_eq_true, decide_eq_true_eq] at hplain
    have htag : g < 0 := hplain.1
    have HB9 := Lib.hid hB
    have H2 := Lib.hid hCb
    have HD1 := Lib.hid hD1
    have HS := Lib.hid hti
    have HSUB := Lib.hid hsub
    have HTB := Lib.hid hTb
    have HDK := Lib.hid hdok
    have HOK := Lib.hid hoki
    have HUS := Lib.hid husi
    have HPL := Lib.hid hpfd
    clear hC hcells hB hA0 hCb hD1 hD2 hti hplain hgx hsub hTb hdok hoki husi hpfd hxi hix
    go_wp2_with (first | (go_at_call 51; refine (at_c (hm.trans ((Mod.refl wr).alloc _)) rfl ht').mono ?_; rintro e w2 ⟨hm2, cs2, rfl, hcs2, ht2⟩; rw [HTI.out] at ht2; obtain ⟨b1, d1, b3, d3, b4, d4, rfl, hxn, hxo, ht3⟩ := TreeI.lit hcs2 ht2; clear hcs2 ht2; have hA : w2.heap[wr.heap.size]? = some (.cells #[.int .i64 kd, .int .i64 fr, .int .i64 to, .int .i64 nl, .int .i64 g, .int .i64 d, .int .i64 o, .slice sa sn sc] 56 (0, 0)) := hm2.some (Zh wr _) (fun f => f); have p0 : w2.cell? ⟨wr.heap.size, 0, none⟩ = some (.int .i64 kd) := (Zc hA).trans rfl; have p1 : w2.cell? ⟨wr.heap.size, 1, none⟩ = some (.int .i64 fr) := (Zc hA).trans rfl; have p2 : w2.cell? ⟨wr.heap.size, 2, none⟩ = some (.int .i64 to) := (Zc hA).trans rfl; have p3 : w2.cell? ⟨wr.heap.size, 3, none⟩ = some (.int .i64 nl) := (Zc hA).trans rfl; have p4 : w2.cell? ⟨wr.heap.size, 4, none⟩ = some (.int .i64 g) := (Zc hA).trans rfl; have p5 : w2.cell? ⟨wr.heap.size, 5, none⟩ = some (.int .i64 d) := (Zc hA).trans rfl; have p6 : w2.cell? ⟨wr.heap.size, 6, none⟩ = some (.int .i64 o) := (Zc hA).trans rfl; have p7 : w2.cell? ⟨wr.heap.size, 7, none⟩ = some (.slice sa sn sc) := (Zc hA).trans rfl; have hws2 : wr.heap.size < w2.heap.size := (by have := hm2.size; simp at this; omega); have HA := Lib.hid hA; clear hA) | (go_at_call 52; refine has_c.mono ?_; rintro e w3 ⟨bb, rfl, hb, hm3⟩; have HB := Lib.hid hb; clear hb; have p4' : w3.cell? ⟨wr.heap.size, 4, none⟩ = some (.int .i64 g) := (Zc (hm3.some ((heap_alloc_old (by omega) _).trans HA.out) (fun f => f))).trans rfl; cases bb))
    ·rename_i K hK _
     have hh : FD.has (.mk kd fr to nl g d o sub) ver = false := by
      cases hc : FD.has (.mk kd fr to nl g d o sub) ver
      ·rfl
      ·have h9 := HB.out.2 (FD.has_iff.1 hc)
       first | exact h9.elim | (cases h9)
     have hui : usualW (.mk kd fr to nl g d o sub) xi = true := by
      have h := HS.out
      rw [hh] at h
      simpa using h
     have hmA : Mod none' w w3 := ((hm.trans ((Mod.refl wr).alloc _)).trans hm2).trans (((Mod.refl w2).alloc _).trans hm3)
     have hmB : Mod none' wr w3 := (((Mod.refl wr).alloc _).trans hm2).trans (((Mod.refl w2).alloc _).trans hm3)
     refine wp_mono (Told_usual (b9 := w.heap.size + 1) (b12 := wr.heap.size) (k2 := kb2) (off2 := off2) (n2 := fs.length) (cap2 := c6) (i := k) (fd := .mk kd fr to nl g d o sub) (sv := .slice sa sn sc) (cx := cb) (xi := xi) rfl rfl rfl rfl (hm3.some ((heap_alloc_old (by omega) _).trans HA.out) (fun f => f)) (hmB.some HB9.out (fun f => f)) rfl hlt (hmB.some HD1.out (fun f => f)) H2.out hcb (HTB.out.mod hmA) (HSUB.out.mod hmB)
      (fun W v' cb' hmW hfv hcb' hxb => usual_c (fun f hf' => by simp only [List.mem_singleton] at hf'; subst hf'; exact HUS.out) (fun f hf' => by simp only [List.mem_singleton] at hf'; subst hf'; exact ⟨HPL.out, HDK.out⟩) hfv hcb' hxb rfl (by show usualsW [_] [xi] = true; simp [usualsW, hui]))) ?_
     rintro e a' w4 ⟨rfl, hs4, hm4, h76⟩
     refine hK a' w4 ?_
     have e := hs4.eq
     simp only [List.foldl] at e
     rw [h76] at e
     rw [e]
     generalize Act.get a' 66 = v66, Act.get a' 67 = v67, Act.get a' 68 = v68, Act.get a' 69 = v69, Act.get a' 70 = v70, Act.get a' 71 = v71, Act.get a' 72 = v72, Act.get a' 73 = v73, Act.get a' 74 = v74, Act.get a' 75 = v75
     clear e hs4 h76
     simp only [Act.put, List.setIfInBounds_toArray, List.set_cons_succ, List.set_cons_zero]
     have hm6 := (hm0.trans hmB).trans hm4
     go_wp2
     go_roundw
     case rel => exact ⟨k + 1, by omega, by go_num, hm6⟩
     case measure => first | omega | (simp [Go.RowKit.intOf]; omega)
    ·rename_i K hK
     have hh : FD.has (.mk kd fr to nl g d o sub) ver = true := by
      exact FD.has_iff.2 (HB.out.1 (by first | rfl | trivial))
     have hui : toldW (.mk kd fr to nl g d o sub) ver true ti xi = true := by
      have h := HS.out
      rw [hh] at h
      simpa [FD.tag, htag] using h
     have hmA : Mod none' w w3 := ((hm.trans ((Mod.refl wr).alloc _)).trans hm2).trans (((Mod.refl w2).alloc _).trans hm3)
     have hmB : Mod none' wr w3 := (((Mod.refl wr).alloc _).trans hm2).trans (((Mod.refl w2).alloc _).trans hm3)
     refine wp_mono (Told_elem (b9 := w.heap.size + 1) (b12 := wr.heap.size) (b13 := w2.heap.size) (k2 := kb2) (off2 := off2) (n2 := fs.length) (cap2 := c6) (i := k) (ver := ver) (flex := true) (cx := cb) rfl rfl rfl rfl rfl rfl rfl (hm3.some ((heap_alloc_old (by omega) _).trans HA.out) (fun f => f)) rfl (hm3.some (Zh w2 _) (fun f => f)) rfl (hmB.some HB9.out (fun f => f)) rfl hlt (hmB.some HD1.out (fun f => f)) H2.out hcb
      (fun W hmW => HOK.out W sa sn sc _ cb ti xi ver true ((HSUB.out.mod hmB).mod hmW) rfl hcb (ht3.mod (hmA.trans hmW)) (HTB.out.mod (hmA.trans hmW)) hui)) ?_
     rintro e a' w4 ⟨rfl, hs4, hm4, h65⟩
     refine hK a' w4 ?_
     have e := hs4.eq
     simp only [List.foldl] at e
     rw [h65] at e
     rw [e]
     generalize Act.get a' 55 = v55, Act.get a' 56 = v56, Act.get a' 57 = v57, Act.get a' 58 = v58, Act.get a' 59 = v59, Act.get a' 60 = v60, Act.get a' 61 = v61, Act.get a' 62 = v62, Act.get a' 63 = v63, Act.get a' 64 = v64
     clear e hs4 h65
     simp only [Act.put, List.setIfInBounds_toArray, List.set_cons_succ, List.set_cons_zero]
     have hm6 := (hm0.trans hmB).trans hm4
     go_wp2
     go_roundw
     case rel => exact ⟨k + 1, by omega, by go_num, hm6⟩
     case measure => first | omega | (simp [Go.RowKit.intOf]; omega)
   ·have ba4 : wr.cell? ⟨w.heap.size, 4, none⟩ = some (.slice a4 t.U.length c4) := by
     have hA0 := hm0.some ((heap_alloc_old (by simp) _).trans (Zh w (.cells #[.int .i64 t.N, .slice a1 t.S.length c1, .bool t.Z, .slice a3 t.L.length c3, .slice a4 t.U.length c4] 26))) (fun f => f)
     exact (Zc hA0).trans rfl
    clear hok hus hpl
    have hU0 : U = cutW (unkW t.U) := HUU.out
    have hUl : U.length = (unkW t.U).length := by rw [hU0]; simp [cutW]
    have HUL := Lib.hid hUl
    have HU0 := Lib.hid hU0
    clear hUl hU0
    go_wp2_with (go_at_call 56; refine (HUN.out wr hm).mono ?_; rintro e w5 ⟨rv, gg, rfl, hm5, hel, hgg⟩; obtain ⟨ra, rc, rfl⟩ := hel.slice; have hm05 := hm0.trans hm5; have hB := (hm05.some (Zh (w.alloc _) _) (fun f => f)); rw [show (w.alloc (.cells #[.int .i64 t.N, .slice a1 t.S.length c1, .bool t.Z, .slice a3 t.L.length c3, .slice a4 t.U.length c4] 26)).heap.size = w.heap.size + 1 by simp] at hB; have x4 : w5.cell? ⟨w.heap.size + 1, 4, none⟩ = some (.slice a7 (unkW t.U).length c7) := ((Zc hB).trans (by rw [<- HUL.out]; rfl)); have HB9 := Lib.hid hB; clear hB)
    obtain ⟨ul, hul⟩ : ∃ ul, unkW t.U = ul := ⟨_, rfl⟩
    have hu7 : ul.length <= 32767 := by rw [<- hul]; exact (unk_ok t.U (TreeI.keys ht')).2.1
    have hgg' : ∀ i (h : i < ul.length), gg i 0 = .int .u32 (ul[i]).1 /\ 0 <= (ul[i]).1 /\ (ul[i]).1 < 4294967296 /\ OctI w5 (gg i 1) (ul[i]).2 := by subst hul; exact hgg
    clear hgg
    simp only [hul] at hel x4 ⊢
    have HULL := Lib.hid hul
    clear hul
    go_loopw [92] (fun i wr2 => ∃ k : Nat, k <= ul.length /\ i = .int .i64 k /\ Mod none' w5 wr2) (fun i _ => ul.length - (Go.RowKit.intOf i).toNat)
    case atStart => exact ⟨0, by omega, rfl, .refl _⟩
    case round =>
     obtain ⟨k, hk, rfl, hm2⟩ := hrel
     have hmm : Mod none' w wr := hm.trans (hm5.trans hm2)
     by_cases hlt : k < ul.length
     ·obtain ⟨kb, off, rfl, C, Tk, fr', hC1, hC2⟩ := elems_at (hel.mod hm2) hlt
      have hkU : k < U.length := by rw [HUL.out, HULL.out]; exact hlt
      obtain ⟨kb2, off2, rfl, D, Tk2, fr2, hD1, hD2⟩ := elems_at (hEu.mod hmm) hkU
      obtain ⟨q1, _, _, q2⟩ := hgg' k hlt
      have q3 := q2.mod hm2
      obtain ⟨va, vc, hv, _⟩ := q3.slice
      obtain ⟨r1, r2⟩ := HXU.out k hkU
      have hUk : U[k] = ((ul[k]).1, whole (ul[k]).2) := by
       have h := HU0.out
       rw [HULL.out] at h
       subst h
       simp [cutW]
      rw [hUk] at r1 r2
      have c0 : wr.cell? ⟨kb, off + k * 2, none⟩ = some (.int .u32 (ul[k]).1) := by rw [Zc hC1, <- q1]; exact hC2 k hlt 0 (by omega)
      have c1' : wr.cell? ⟨kb, off + k * 2 + 1, none⟩ = some (.slice va (ul[k]).2.length vc) := by rw [Zc hC1, <- hv]; exact hC2 k hlt 1 (by omega)
      have e0 := hD2 k hkU 0 (by omega)
      have e1 := hD2 k hkU 1 (by omega)
      rw [r1] at e0
      rw [hv] at q3
      have hX4 := hm2.some HB9.out (fun f => f)
      generalize ul[k] = up at *
      have HX4 := Lib.hid hX4
      have HD1 := Lib.hid hD1
      have HE0 := Lib.hid e0
      have HE1 := Lib.hid e1
      clear hX4 hD1 hD2 hC1 hC2 e0 e1 r1 q1 hv q2 hUk
      go_wp2
      rename_i K hK
      refine wp_mono (Told_tag (b9 := w.heap.size + 1) (b16 := wr.heap.size) (k2 := kb2) (off2 := off2) (n2 := U.length) (cap2 := c7) (i := k) (key := up.1) (us := up.2) rfl rfl rfl rfl ((heap_alloc_old (lt_of_block HX4.out) _).trans HX4.out) rfl hkU ((heap_alloc_old (lt_of_block HD1.out) _).trans HD1.out) HE0.out HE1.out (Zh wr _) rfl rfl (q3.mod ((Mod.refl wr).alloc _)) (r2.mod (hmm.trans ((Mod.refl wr).alloc _)))) ?_
      rintro e a' w4 ⟨rfl, hs4, hm4, h118⟩
      refine hK a' w4 ?_
      have e := hs4.eq
      simp only [List.foldl] at e
      rw [h118] at e
      rw [e]
      generalize Act.get a' 97 = v97, Act.get a' 98 = v98, Act.get a' 99 = v99, Act.get a' 100 = v100, Act.get a' 101 = v101, Act.get a' 102 = v102, Act.get a' 103 = v103, Act.get a' 104 = v104, Act.get a' 105 = v105, Act.get a' 106 = v106, Act.get a' 107 = v107, Act.get a' 108 = v108, Act.get a' 109 = v109, Act.get a' 110 = v110, Act.get a' 111 = v111, Act.get a' 112 = v112, Act.get a' 113 = v113, Act.get a' 114 = v114, Act.get a' 115 = v115, Act.get a' 116 = v116, Act.get a' 117 = v117
      clear e hs4 h118
      simp only [Act.put, List.setIfInBounds_toArray, List.set_cons_succ, List.set_cons_zero]
      have hm6 := (hm2.trans ((Mod.refl wr).alloc _)).trans hm4
      go_wp2
      go_roundw
      case rel => exact ⟨k + 1, by omega, by go_num, hm6⟩
      case measure => first | omega | (simp [Go.RowKit.intOf]; omega)
     ·go_wp2
      go_ret
      exact ⟨rfl, hmm⟩
mutual
/-- only texts, octets, parts and lists may be null -/
def FD.nok : FD -> Bool
 | .mk kind _ _ null _ _ _ sub => (decide (kind = 8) || decide (kind = 9) || decide (kind = 10) || decide (kind = 11) || decide (null = -1)) && nokL sub
def nokL : List FD -> Bool
 | [] => true
 | f :: r => f.nok && nokL r
end
theorem mem_plain : ∀ {fs : List FD}, plainL fs = true -> ∀ f ∈ fs, f.plain = true
 | [], _, f, hf => by simp at hf
 | g :: r, h, f, hf => by
  simp only [plainL, Bool.and_eq_true] at h
  rcases List.mem_cons.1 hf with rfl | hf
  ·exact h.1
  ·exact mem_plain h.2 f hf
mutual
theorem usual_ok : ∀ (f : FD), f.plain = true -> f.dok = true -> UsualOk f
 | .mk kind fr to nl g d o sub, hp, hd => by
  intro hk w sv cx x hsv hcx hx hU hu
  simp only [FD.kind] at hk
  subst hk
  have hp' : plainL sub = true := by
   simp only [FD.plain, leafK, Bool.and_eq_true, Bool.or_eq_true, decide_eq_true_eq, beq_iff_eq] at hp
   rcases hp.2 with (h | h) | h
   ·omega
   ·exact h.2
   ·omega
  simp only [FD.dok, Bool.and_eq_true] at hd
  exact usual_c (usuals_ok sub hp' hd.2) (fun f hf => ⟨mem_plain hp' f hf, mem_dok hd.2 f hf⟩) hsv hcx hx hU hu
theorem usuals_ok : ∀ (fs : List FD), plainL fs = true -> dokL fs = true -> ∀ f ∈ fs, UsualOk f
 | [], _, _, f, hf => by simp at hf
 | f0 :: r, hp, hd, f, hf => by
  simp only [plainL, dokL, Bool.and_eq_true] at hp hd
  rcases List.mem_cons.1 hf with e | hf
  ·exact e ▸ usual_ok f0 hp.1 hd.1
  ·exact usuals_ok r hp.2 hd.2 f hf
end
theorem sub_plain {fr to nl g d o : Int} {sub : List FD} (hp : (FD.mk 10 fr to nl g d o sub).plain = true) : plainL sub = true := by
 simp only [FD.plain, leafK, Bool.and_eq_true, Bool.or_eq_true, decide_eq_true_eq, beq_iff_eq] at hp
 rcases hp.2 with (h | h) | h
 ·omega
 ·exact h.2
 ·omega
theorem of_plain {fr to nl g d o : Int} {sub : List FD} (hp : (FD.mk 11 fr to nl g d o sub).plain = true) : leafK o = true \/ (o = 10 /\ plainL sub = true) := by
 simp only [FD.plain, Bool.and_eq_true, Bool.or_eq_true, decide_eq_true_eq] at hp
 rcases hp.2 with (h | h) | h
 ·simp [leafK] at h
 ·omega
 ·exact h.2
mutual
theorem told_ok : ∀ (f : FD), f.plain = true -> f.dok = true -> f.nok = true -> ToldOk f
 | .mk kind fr to nl g d o sub, hp, hd, hn => by
  intro w sa sn sc cs cx t x ver flex hsv hcs hcx ht hx h
  have hd2 : dokL sub = true := by simp only [FD.dok, Bool.and_eq_true] at hd; exact hd.2
  have hn2 : nokL sub = true := by simp only [FD.nok, Bool.and_eq_true] at hn; exact hn.2
  have part : plainL sub = true -> ∀ W ca cb y z, FdsI W (.slice sa sn sc) sub -> ca.size = 5 -> cb.size = 5 -> TreeI W (from' ca 0) y -> TreeI W (from' cb 0) z -> toldsW sub 0 ver flex y z.L = true -> tagsTold flex y z = true -> ToldsC (.slice sa sn sc) ca cb ver flex W :=
   fun hps W ca cb y z h1 h2 h3 h4 h5 h6 h7 => Told_c (tolds_ok sub hps hd2 hn2) (usuals_ok sub hps hd2) (fun f hf => ⟨mem_plain hps f hf, mem_dok hd2 f hf⟩) h1 h2 h3 h4 h5 h6 h7
  by_cases hk : leafK kind = true
  ·rw [toldW_leaf hk] at h
   have hnn : kind = 8 \/ kind = 9 \/ nl = -1 := by
    simp only [FD.nok, Bool.and_eq_true, Bool.or_eq_true, decide_eq_true_eq] at hn
    rcases hn.1 with (((h1 | h1) | h1) | h1) | h1
    ·exact .inl h1
    ·exact .inr (.inl h1)
    ·exact absurd h1 (leaf_ne hk).2
    ·exact absurd h1 (leaf_ne hk).1
    ·exact .inr (.inr h1)
   exact told_c hcs hcx ht hx hk hnn h
  ·by_cases h10 : kind = 10
   ·subst h10
    simp only [toldW, show ¬ (10 : Int) = 11 by decide, if_false, if_true] at h
    have hz : x.Z = nullW nl ver t := by
     by_cases hz : x.Z = nullW nl ver t
     ·exact hz
     ·have : (x.Z != nullW nl ver t) = true := by simpa using hz
      rw [if_pos this] at h; cases h
    rw [if_neg (by simp [hz])] at h
    refine told_part hcs hcx ht hx hz fun hb W hm => ?_
    replace hb : nullW nl ver t = false := hb
    rw [hb] at h
    simp only [Bool.false_eq_true, if_false, Bool.and_eq_true] at h
    exact part (sub_plain hp) W cs cx t x (hsv.mod hm) hcs hcx (ht.mod hm) (hx.mod hm) h.1 h.2
   ·have h11 : kind = 11 := by
     simp only [FD.plain, Bool.and_eq_true, Bool.or_eq_true, decide_eq_true_eq] at hp
     rcases hp.2 with (q | q) | q
     ·exact absurd q hk
     ·exact absurd q.1 h10
     ·exact q.1
    subst h11
    simp only [toldW, if_true] at h
    have hof := of_plain hp
    have hmay : (0 <= nl /\ nl <= ver) -> x.Z = nullW nl ver t := fun hq => by
     by_cases hz : x.Z = nullW nl ver t
     ·exact hz
     ·have : ((decide (0 <= nl) && decide (nl <= ver)) && x.Z != nullW nl ver t) = true := by simp [hq.1, hq.2, hz]
      rw [if_pos this] at h; cases h
    have hrest : nullW nl ver t = false -> x.L.length = (t.L.take 32767).length /\ ((t.L.take 32767).zip x.L).all (fun p => elT o sub ver flex p.1 p.2) = true := fun hb => by
     rw [hb] at h
     split at h
     ·cases h
     ·simp only [Bool.false_eq_true, if_false, Bool.and_eq_true, decide_eq_true_eq] at h
      exact h
    refine told_list hcs hcx ht hx hmay (fun hb => (hrest hb).1) fun hb W i hi hi' ca cb hi7 hm hca hcb hta hxb => ?_
    obtain ⟨hl, hall⟩ := hrest hb
    have hel : elT o sub ver flex t.L[i] x.L[i] = true := by
     have hz : i < ((t.L.take 32767).zip x.L).length := by simp; omega
     have := List.all_eq_true.1 hall _ (List.getElem_mem hz)
     simpa using this
    rcases hof with hof | ⟨rfl, hps⟩
    ·simp only [elT, if_neg (leaf_ne hof).2] at hel
     exact told_c (k := o) (nl := -1) hca hcb hta hxb hof (.inr (.inr rfl)) hel
    ·simp only [elT, if_true, Bool.and_eq_true, Bool.not_eq_true'] at hel
     refine told_part hca hcb hta hxb (by rw [hel.1, nullW_never]) fun _ W' hm' => ?_
     exact part hps W' ca cb _ _ ((hsv.mod hm).mod hm') hca hcb (hta.mod hm') (hxb.mod hm') hel.2.1 hel.2.2
theorem tolds_ok : ∀ (fs : List FD), plainL fs = true -> dokL fs = true -> nokL fs = true -> ∀ f ∈ fs, ToldOk f
 | [], _, _, _, f, hf => by simp at hf
 | f0 :: r, hp, hd, hn, f, hf => by
  simp only [plainL, dokL, nokL, Bool.and_eq_true] at hp hd hn
  rcases List.mem_cons.1 hf with e | hf
  ·exact e ▸ told_ok f0 hp.1 hd.1 hn.1
  ·exact tolds_ok r hp.2 hd.2 hn.2 f hf
end
/-- fields that are written and told as they should -/
def goodL (fs : List FD) : Bool := plainL fs && dokL fs && nokL fs
theorem told_all {fs : List FD} (hg : goodL fs = true) {w : World} {v : Value} {ct cx : Array Value} {ver : Int} {flex : Bool} {t x : Tr} (hf : FdsI w v fs) (hct : ct.size = 5) (hcx : cx.size = 5) (ht : TreeI w (from' ct 0) t) (hx : TreeI w (from' cx 0) x)
  (hto : toldsW fs 0 ver flex t x.L = true) (htg : tagsTold flex t x = true) : ToldsC v ct cx ver flex w := by
 simp only [goodL, Bool.and_eq_true] at hg
 exact Told_c (tolds_ok fs hg.1.1 hg.1.2 hg.2) (usuals_ok fs hg.1.1 hg.1.2) (fun f hf => ⟨mem_plain hg.1.1 f hf, mem_dok hg.1.2 f hf⟩) hf hct hcx ht hx hto htg
theorem part_all {fs : List FD} (hg : goodL fs = true) {w : World} {v : Value} {ct : Array Value} {ver : Int} {flex : Bool} {t : Tr} (hf : FdsI w v fs) (hct : ct.size = 5) (ht : TreeI w (from' ct 0) t) (hlen : (partW fs ver flex t).length <= 4294967295) :
  BytesC Tryz.prog 50 #[v, .int .i64 ver, .bool flex, .agg ct] w (partW fs ver flex t) := by
 simp only [goodL, Bool.and_eq_true] at hg
 exact part_ok (fields_ok fs hg.1.1) hf hct ht hlen
end Go.Proofs.YtpecdnfmlodmaaaGreatDoorR
