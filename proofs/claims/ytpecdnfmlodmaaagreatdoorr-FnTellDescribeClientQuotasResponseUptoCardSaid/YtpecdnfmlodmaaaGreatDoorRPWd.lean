/-
  The reader of package spec: whether a field of any kind is told as it was written.
-/
import Derived.Test.YtpecdnfmlodmaaaGreatDoorRPWq
set_option linter.unusedSimpArgs false
set_option linter.unusedVariables false
namespace Go.Proofs.YtpecdnfmlodmaaaGreatDoorR
open Go Go.RowKit
set_option maxRecDepth 100000 in
/-- '!told(one, version, flex, l[i], got.L[i])' -/
theorem told_elem {w : World} {a : Act} {b9 b15 k off n cap k2 off2 n2 cap2 i : Nat} {ver : Int} {flex : Bool} {F X C C2 cs cx : Array Value} {T9 T15 Tk Tk2 : TypeId} {fr fr2 : Nat × Nat} {id : Nat} {y0 y1 y2 y3 y4 y5 y6 y7 y8 y9 y10 y11 y12 y13 ya13 : TypeId} {p0 p1 p2 p3 p4 p5 p6 p7 p8 p9 p10 p11 p12 p13 : String} {ts12 : Array TypeId} (hN : a.tmps.size = 124)
  (g1 : Act.get a 1 = .int .i64 ver) (g2 : Act.get a 2 = .bool flex) (g9 : Act.get a 9 = .pointer (some ⟨b9, 0, none⟩)) (g14 : Act.get a 14 = .slice (some ⟨k, off, none⟩) n cap) (g15 : Act.get a 15 = .pointer (some ⟨b15, 0, none⟩)) (g16 : Act.get a 16 = .int .i64 ((i : Nat) : Int))
  (h15 : w.heap[b15]? = some (.cells F T15 (0, 0))) (hF8 : F.size = 8) (h9 : w.heap[b9]? = some (.cells X T9 (0, 0))) (hX3 : X[0 + 3]? = some (.slice (some ⟨k2, off2, none⟩) n2 cap2)) (hi : i < n) (hi2 : i < n2)
  (hk : w.heap[k]? = some (.cells C Tk fr)) (hC : ∀ j v, cs.toList[j]? = some v -> C[off + i * 5 + j]? = some v) (hcs : cs.size = 5) (hk2 : w.heap[k2]? = some (.cells C2 Tk2 fr2)) (hC2 : ∀ j v, cx.toList[j]? = some v -> C2[off2 + i * 5 + j]? = some v) (hcx : cx.size = 5)
  (hT : ∀ W, Mod none' w W -> Calls Tryz.prog 54 #[.agg F, .int .i64 ver, .bool flex, .agg cs, .agg cx] W fun e w' => e = .returned (.bool true) /\ Mod none' W w') :
  (Code.region id #[⟨some 101, .load 56 (.tmp 15), y0, p0, #[], none⟩,
   ⟨some 102, .move (.tmp 1), y1, p1, #[], none⟩,
   ⟨some 103, .move (.tmp 2), y2, p2, #[], none⟩,
   ⟨some 104, .move (.tmp 14), y3, p3, #[], none⟩,
   ⟨some 105, .move (.tmp 16), y4, p4, #[], none⟩,
   ⟨some 106, .indexAddr 23 (.tmp 104) (.tmp 105), y5, p5, #[⟨3, .data⟩, ⟨4, .data⟩], none⟩,
   ⟨some 107, .load 26 (.tmp 106), y6, p6, #[⟨5, .data⟩], none⟩,
   ⟨some 108, .fieldAddr 26 (.tmp 9) 3, y7, p7, #[], none⟩,
   ⟨some 109, .load 23 (.tmp 108), y8, p8, #[⟨7, .data⟩], none⟩,
   ⟨some 110, .move (.tmp 16), y9, p9, #[], none⟩,
   ⟨some 111, .indexAddr 23 (.tmp 109) (.tmp 110), y10, p10, #[⟨8, .data⟩, ⟨9, .data⟩], none⟩,
   ⟨some 112, .load 26 (.tmp 111), y11, p11, #[⟨10, .data⟩], none⟩,
   ⟨some 113, .call ⟨.value (.func 54), #[.tmp 101, .tmp 102, .tmp 103, .tmp 107, .tmp 112], ts12⟩, y12, p12, #[⟨0, .data⟩, ⟨1, .data⟩, ⟨2, .data⟩, ⟨6, .data⟩, ⟨11, .data⟩], none⟩,
   ⟨some 114, .unOp .not ya13 (.tmp 113), y13, p13, #[⟨12, .data⟩], none⟩] true).wp Tryz.prog
  (fun e a' w' => e = .normal /\ SameBut (fun t => t ∈ [101, 102, 103, 104, 105, 106, 107, 108, 109, 110, 111, 112, 113, 114]) a a' /\ Mod none' w w' /\ Act.get a' 114 = .bool false) a w := by
 refine region_rlq (l := [_, _, _, _, _, _, _, _, _, _, _, _, _]) (tl := [_]) rfl (Mod none') (fun a b h => h) (fun _ _ _ h h' => h.trans h') [101, 102, 103, 104, 105, 106, 107, 108, 109, 110, 111, 112, 113]
  [fun v _ => v = .agg (F), fun v _ => v = .int .i64 ver, fun v _ => v = .bool flex, fun v _ => v = .slice (some ⟨k, off, none⟩) n cap, fun v _ => v = .int .i64 ((i : Nat) : Int), fun v _ => v = .pointer (some ⟨k, off + i * 5, none⟩), fun v _ => v = .agg cs, fun v _ => v = .pointer (some ⟨b9, 0 + 3, none⟩), fun v _ => v = .slice (some ⟨k2, off2, none⟩) n2 cap2, fun v _ => v = .int .i64 ((i : Nat) : Int), fun v _ => v = .pointer (some ⟨k2, off2 + i * 5, none⟩), fun v _ => v = .agg cx]
  (fun v _ => v = .bool true)
  ?_ ?_ (by simp [regFormT]) (by decide) (fun d hd => by rw [hN]; simp at hd; omega) (by simp) (by kernel_rfl) ⟨?_, ?_, ?_, ?_, ?_, ?_, ?_, ?_, ?_, ?_, ?_, ?_, ?_, trivial⟩ ?_
 ·intro g hg u1 w1 w2 hv hr
  simp only [List.mem_cons, List.not_mem_nil, or_false] at hg
  rcases hg with rfl | rfl | rfl | rfl | rfl | rfl | rfl | rfl | rfl | rfl | rfl | rfl
  ·exact hv
  ·exact hv
  ·exact hv
  ·exact hv
  ·exact hv
  ·exact hv
  ·exact hv
  ·exact hv
  ·exact hv
  ·exact hv
  ·exact hv
  ·exact hv
 ·intro u1 w1 w2 hv hr
  exact hv
 ·intro a1 w1 hr hp hs hd
  have t1 := (hs.get 15 (by decide)).trans g15
  have k1 := hr.some h15 (fun f => f)
  refine Zw (x_loadN (cs := (F).toList) (b := b15) (o := 0) (by rw [Array.length_toList, hF8]; kernel_rfl) (by rw [Ze]; exact t1) (fun j v hv => by rw [Zc k1, Nat.zero_add]; simpa using hv)) ⟨_, rfl, relp_ne (by rfl) (.refl _), by simp⟩
 ·intro a1 w1 hr hp hs hd
  have t1 := (hs.get 1 (by decide)).trans g1
  exact Zw (x_moveV t1) ⟨_, rfl, relp_ne (by rfl) (.refl _), rfl⟩
 ·intro a1 w1 hr hp hs hd
  have t1 := (hs.get 2 (by decide)).trans g2
  exact Zw (x_moveV t1) ⟨_, rfl, relp_ne (by rfl) (.refl _), rfl⟩
 ·intro a1 w1 hr hp hs hd
  have t1 := (hs.get 14 (by decide)).trans g14
  exact Zw (x_moveV t1) ⟨_, rfl, relp_ne (by rfl) (.refl _), rfl⟩
 ·intro a1 w1 hr hp hs hd
  have t1 := (hs.get 16 (by decide)).trans g16
  exact Zw (x_moveV t1) ⟨_, rfl, relp_ne (by rfl) (.refl _), rfl⟩
 ·intro a1 w1 hr hp hs hd
  have t1 : Act.get a1 104 = .slice (some ⟨k, off, none⟩) (n) (cap) := hd ⟨3, .data⟩ (by simp) rfl
  have t2 : Act.get a1 105 = .int .i64 ((i : Nat) : Int) := hd ⟨4, .data⟩ (by simp) rfl
  exact Zw (Zx (sz := 5) (i := i) (b := k) (o := off) (n := n) (cap := cap) (k := .i64) (by kernel_rfl) (by rw [Ze]; exact t1) (by rw [Ze]; exact t2) hi) ⟨_, rfl, relp_ne (by rfl) (.refl _), rfl⟩
 ·intro a1 w1 hr hp hs hd
  have t1 : Act.get a1 106 = .pointer (some ⟨k, off + i * 5, none⟩) := hd ⟨5, .data⟩ (by simp) rfl
  have k1 := hr.some hk (fun f => f)
  refine Zw (x_loadN (cs := cs.toList) (b := k) (o := off + i * 5) (by rw [Array.length_toList, hcs]; kernel_rfl) (by rw [Ze]; exact t1) (fun j v hv => by rw [Zc k1]; exact hC j v hv)) ⟨_, rfl, relp_ne (by rfl) (.refl _), by simp⟩
 ·intro a1 w1 hr hp hs hd
  have t1 := (hs.get 9 (by decide)).trans g9
  exact Zw (Za (o := 3) (by kernel_rfl) (b := b9) (o0 := 0) (by rw [Ze]; exact t1)) ⟨_, rfl, relp_ne (by rfl) (.refl _), rfl⟩
 ·intro a1 w1 hr hp hs hd
  have t1 : Act.get a1 108 = .pointer (some ⟨b9, 0 + 3, none⟩) := hd ⟨7, .data⟩ (by simp) rfl
  have k1 := hr.some h9 (fun f => f)
  exact Zw (Zl (by kernel_rfl) (b := b9) (o := 0 + 3) (v := .slice (some ⟨k2, off2, none⟩) n2 cap2) (by rw [Ze]; exact t1) (by rw [Zc k1]; exact hX3)) ⟨_, rfl, relp_ne (by rfl) (.refl _), rfl⟩
 ·intro a1 w1 hr hp hs hd
  have t1 := (hs.get 16 (by decide)).trans g16
  exact Zw (x_moveV t1) ⟨_, rfl, relp_ne (by rfl) (.refl _), rfl⟩
 ·intro a1 w1 hr hp hs hd
  have t1 : Act.get a1 109 = .slice (some ⟨k2, off2, none⟩) (n2) (cap2) := hd ⟨8, .data⟩ (by simp) rfl
  have t2 : Act.get a1 110 = .int .i64 ((i : Nat) : Int) := hd ⟨9, .data⟩ (by simp) rfl
  exact Zw (Zx (sz := 5) (i := i) (b := k2) (o := off2) (n := n2) (cap := cap2) (k := .i64) (by kernel_rfl) (by rw [Ze]; exact t1) (by rw [Ze]; exact t2) hi2) ⟨_, rfl, relp_ne (by rfl) (.refl _), rfl⟩
 ·intro a1 w1 hr hp hs hd
  have t1 : Act.get a1 111 = .pointer (some ⟨k2, off2 + i * 5, none⟩) := hd ⟨10, .data⟩ (by simp) rfl
  have k1 := hr.some hk2 (fun f => f)
  refine Zw (x_loadN (cs := cx.toList) (b := k2) (o := off2 + i * 5) (by rw [Array.length_toList, hcx]; kernel_rfl) (by rw [Ze]; exact t1) (fun j v hv => by rw [Zc k1]; exact hC2 j v hv)) ⟨_, rfl, relp_ne (by rfl) (.refl _), by simp⟩
 ·intro a1 w1 hr hp hs hd
  have q0 : Act.get a1 101 = .agg F := hd ⟨0, .data⟩ (by simp) rfl
  have q1 : Act.get a1 102 = .int .i64 ver := hd ⟨1, .data⟩ (by simp) rfl
  have q2 : Act.get a1 103 = .bool flex := hd ⟨2, .data⟩ (by simp) rfl
  have q6 : Act.get a1 107 = .agg cs := hd ⟨6, .data⟩ (by simp) rfl
  have q11 : Act.get a1 112 = .agg cx := hd ⟨11, .data⟩ (by simp) rfl
  have e1 : (#[.tmp 101, .tmp 102, .tmp 103, .tmp 107, .tmp 112] : Array Operand).map a1.eval = #[.agg F, .int .i64 ver, .bool flex, .agg cs, .agg cx] := by simp [Ze, q0, q1, q2, q6, q11]
  refine owp_call (Zy (by kernel_rfl) rfl) (by rw [e1]; exact hT _ hr) ?_
  rintro e w2 ⟨rfl, hm⟩
  exact ⟨_, rfl, _, rfl, relp_eq hm, rfl⟩
 ·intro a1 w1 hr hs hh
  have q3 : Act.get a1 113 = .bool true := hh 12 (by simp)
  refine Zv rfl (x_notV (b := true) (c := false) (by rw [Ze]; exact q3) rfl) (wpList_nil ⟨rfl, (hs.sub (by decide)).puts (by decide) _, hr, ?_⟩)
  rw [Zq (by rw [hs.size, hN]; decide)]
def ToldC (F cs cx : Array Value) (ver : Int) (flex : Bool) (w : World) : Prop := Calls Tryz.prog 54 #[.agg F, .int .i64 ver, .bool flex, .agg cs, .agg cx] w fun e w' => e = .returned (.bool true) /\ Mod none' w w'
def ToldsC (v : Value) (cs cx : Array Value) (ver : Int) (flex : Bool) (w : World) : Prop := Calls Tryz.prog 17 #[v, .int .i64 ver, .bool flex, .agg cs, .agg cx] w fun e w' => e = .returned (.bool true) /\ Mod none' w w'
set_option maxRecDepth 100000 in
set_option maxHeartbeats 8000000 in
/-- a field that is a part -/
theorem told_part {w : World} {fr to nl g d o ver : Int} {sa : Option Addr} {sn sc : Nat} {flex : Bool} {cs cx : Array Value} {t x : Tr} (hcs : cs.size = 5) (hcx : cx.size = 5) (ht : TreeI w (from' cs 0) t) (hx : TreeI w (from' cx 0) x)
  (hz : x.Z = nullW nl ver t) (hT : nullW nl ver t = false -> ∀ W, Mod none' w W -> ToldsC (.slice sa sn sc) cs cx ver flex W) : ToldC #[.int .i64 10, .int .i64 fr, .int .i64 to, .int .i64 nl, .int .i64 g, .int .i64 d, .int .i64 o, .slice sa sn sc] cs cx ver flex w := by
 obtain ⟨a1, c1, a3, c3, a4, c4, rfl, hfit, ho, ht'⟩ := TreeI.lit hcs ht
 obtain ⟨a5, c5, a6, c6, a7, c7, rfl, hfx, hox, hx'⟩ := TreeI.lit hcx hx
 unfold ToldC
 clear ht hx hcs hcx
 obtain ⟨zt, htz⟩ : ∃ z, t.Z = z := ⟨_, rfl⟩
 obtain ⟨zx, hxz⟩ : ∃ z, x.Z = z := ⟨_, rfl⟩
 rw [hxz] at hz
 rw [htz] at ht'
 rw [hxz] at hx'
 simp only [htz, hxz] at hT ⊢
 cases hb0 : nullW nl ver t with
 | true =>
  rw [hb0] at hz
  subst hz
  have HB0 := Lib.hid hb0
  obtain ⟨hz0, hq1, hq2⟩ := nullW_true hb0
  obtain rfl : zt = true := htz.symm.trans hz0
  have HTZ := Lib.hid htz
  clear hb0 hT htz hxz hz0
  go_enter Tryz.func54, Tryz.ntmps54
  go_wp2_with (first | (go_at_call 118; refine null_c.mono ?_; rintro e w1 ⟨b, rfl, hb, hm1⟩; obtain ⟨hA, hB, hC⟩ := three_boxes hm1; have hbb : b = true := (nullW_iff (by rw [HTZ.out]; exact hb)).trans HB0.out; subst hbb; clear hb; have qa0 : w1.cell? ⟨w.heap.size, 0, none⟩ = some (.int .i64 10) := (Zc hA).trans rfl; have qa1 : w1.cell? ⟨w.heap.size, 1, none⟩ = some (.int .i64 fr) := (Zc hA).trans rfl; have qa2 : w1.cell? ⟨w.heap.size, 2, none⟩ = some (.int .i64 to) := (Zc hA).trans rfl; have qa3 : w1.cell? ⟨w.heap.size, 3, none⟩ = some (.int .i64 nl) := (Zc hA).trans rfl; have qa4 : w1.cell? ⟨w.heap.size, 4, none⟩ = some (.int .i64 g) := (Zc hA).trans rfl; have qa5 : w1.cell? ⟨w.heap.size, 5, none⟩ = some (.int .i64 d) := (Zc hA).trans rfl; have qa6 : w1.cell? ⟨w.heap.size, 6, none⟩ = some (.int .i64 o) := (Zc hA).trans rfl; have qa7 : w1.cell? ⟨w.heap.size, 7, none⟩ = some (.slice sa sn sc) := (Zc hA).trans rfl; have qb0 : w1.cell? ⟨w.heap.size + 1, 0, none⟩ = some (.int .i64 t.N) := (Zc hB).trans rfl; have qb1 : w1.cell? ⟨w.heap.size + 1, 1, none⟩ = some (.slice a1 t.S.length c1) := (Zc hB).trans rfl; have qb2 : w1.cell? ⟨w.heap.size + 1, 2, none⟩ = some (.bool true) := (Zc hB).trans rfl; have qb3 : w1.cell? ⟨w.heap.size + 1, 3, none⟩ = some (.slice a3 t.L.length c3) := (Zc hB).trans rfl; have qb4 : w1.cell? ⟨w.heap.size + 1, 4, none⟩ = some (.slice a4 t.U.length c4) := (Zc hB).trans rfl; have qc0 : w1.cell? ⟨w.heap.size + 2, 0, none⟩ = some (.int .i64 x.N) := (Zc hC).trans rfl; have qc1 : w1.cell? ⟨w.heap.size + 2, 1, none⟩ = some (.slice a5 x.S.length c5) := (Zc hC).trans rfl; have qc2 : w1.cell? ⟨w.heap.size + 2, 2, none⟩ = some (.bool true) := (Zc hC).trans rfl; have qc3 : w1.cell? ⟨w.heap.size + 2, 3, none⟩ = some (.slice a6 x.L.length c6) := (Zc hC).trans rfl; have qc4 : w1.cell? ⟨w.heap.size + 2, 4, none⟩ = some (.slice a7 x.U.length c7) := (Zc hC).trans rfl; have hw1s : w.heap.size + 2 < w1.heap.size := (by have := hm1.size; simp at this; omega); have hw2s : w.heap.size < w1.heap.size := (by omega); have hw3s : w.heap.size + 1 < w1.heap.size := (by omega); have HA := Lib.hid hA; have HBx := Lib.hid hB; have HC := Lib.hid hC; clear hA hB hC))
  go_ret
  exact ⟨rfl, ((((Mod.refl w).alloc _).alloc _).alloc _).trans hm1⟩
 | false =>
  rw [hb0] at hz
  subst hz
  have HB0 := Lib.hid hb0
  have HTZ := Lib.hid htz
  have HT := Lib.hid (hT hb0)
  clear hb0 hT htz hxz
  rcases Int.lt_or_le nl 0 with hq1 | hq1
  ·go_enter Tryz.func54, Tryz.ntmps54
   go_wp2_with (first | (go_at_call 118; refine null_c.mono ?_; rintro e w1 ⟨b, rfl, hb, hm1⟩; obtain ⟨hA, hB, hC⟩ := three_boxes hm1; have hbb : b = false := (nullW_iff (by rw [HTZ.out]; exact hb)).trans HB0.out; subst hbb; clear hb; have qa0 : w1.cell? ⟨w.heap.size, 0, none⟩ = some (.int .i64 10) := (Zc hA).trans rfl; have qa1 : w1.cell? ⟨w.heap.size, 1, none⟩ = some (.int .i64 fr) := (Zc hA).trans rfl; have qa2 : w1.cell? ⟨w.heap.size, 2, none⟩ = some (.int .i64 to) := (Zc hA).trans rfl; have qa3 : w1.cell? ⟨w.heap.size, 3, none⟩ = some (.int .i64 nl) := (Zc hA).trans rfl; have qa4 : w1.cell? ⟨w.heap.size, 4, none⟩ = some (.int .i64 g) := (Zc hA).trans rfl; have qa5 : w1.cell? ⟨w.heap.size, 5, none⟩ = some (.int .i64 d) := (Zc hA).trans rfl; have qa6 : w1.cell? ⟨w.heap.size, 6, none⟩ = some (.int .i64 o) := (Zc hA).trans rfl; have qa7 : w1.cell? ⟨w.heap.size, 7, none⟩ = some (.slice sa sn sc) := (Zc hA).trans rfl; have qb0 : w1.cell? ⟨w.heap.size + 1, 0, none⟩ = some (.int .i64 t.N) := (Zc hB).trans rfl; have qb1 : w1.cell? ⟨w.heap.size + 1, 1, none⟩ = some (.slice a1 t.S.length c1) := (Zc hB).trans rfl; have qb2 : w1.cell? ⟨w.heap.size + 1, 2, none⟩ = some (.bool zt) := (Zc hB).trans rfl; have qb3 : w1.cell? ⟨w.heap.size + 1, 3, none⟩ = some (.slice a3 t.L.length c3) := (Zc hB).trans rfl; have qb4 : w1.cell? ⟨w.heap.size + 1, 4, none⟩ = some (.slice a4 t.U.length c4) := (Zc hB).trans rfl; have qc0 : w1.cell? ⟨w.heap.size + 2, 0, none⟩ = some (.int .i64 x.N) := (Zc hC).trans rfl; have qc1 : w1.cell? ⟨w.heap.size + 2, 1, none⟩ = some (.slice a5 x.S.length c5) := (Zc hC).trans rfl; have qc2 : w1.cell? ⟨w.heap.size + 2, 2, none⟩ = some (.bool false) := (Zc hC).trans rfl; have qc3 : w1.cell? ⟨w.heap.size + 2, 3, none⟩ = some (.slice a6 x.L.length c6) := (Zc hC).trans rfl; have qc4 : w1.cell? ⟨w.heap.size + 2, 4, none⟩ = some (.slice a7 x.U.length c7) := (Zc hC).trans rfl; have hw1s : w.heap.size + 2 < w1.heap.size := (by have := hm1.size; simp at this; omega); have hw2s : w.heap.size < w1.heap.size := (by omega); have hw3s : w.heap.size + 1 < w1.heap.size := (by omega); have HA := Lib.hid hA; have HBx := Lib.hid hB; have HC := Lib.hid hC; clear hA hB hC) | (go_at_call 17; refine (HT.out _ (((((Mod.refl w).alloc _).alloc _).alloc _).trans hm1)).mono ?_; rintro e w5 ⟨rfl, hm5⟩))
   go_ret
   exact ⟨rfl, (((((Mod.refl w).alloc _).alloc _).alloc _).trans hm1).trans hm5⟩
  ·rcases Int.lt_or_le ver nl with hq2 | hq2
   ·go_enter Tryz.func54, Tryz.ntmps54
    go_wp2_with (first | (go_at_call 118; refine null_c.mono ?_; rintro e w1 ⟨b, rfl, hb, hm1⟩; obtain ⟨hA, hB, hC⟩ := three_boxes hm1; have hbb : b = false := (nullW_iff (by rw [HTZ.out]; exact hb)).trans HB0.out; subst hbb; clear hb; have qa0 : w1.cell? ⟨w.heap.size, 0, none⟩ = some (.int .i64 10) := (Zc hA).trans rfl; have qa1 : w1.cell? ⟨w.heap.size, 1, none⟩ = some (.int .i64 fr) := (Zc hA).trans rfl; have qa2 : w1.cell? ⟨w.heap.size, 2, none⟩ = some (.int .i64 to) := (Zc hA).trans rfl; have qa3 : w1.cell? ⟨w.heap.size, 3, none⟩ = some (.int .i64 nl) := (Zc hA).trans rfl; have qa4 : w1.cell? ⟨w.heap.size, 4, none⟩ = some (.int .i64 g) := (Zc hA).trans rfl; have qa5 : w1.cell? ⟨w.heap.size, 5, none⟩ = some (.int .i64 d) := (Zc hA).trans rfl; have qa6 : w1.cell? ⟨w.heap.size, 6, none⟩ = some (.int .i64 o) := (Zc hA).trans rfl; have qa7 : w1.cell? ⟨w.heap.size, 7, none⟩ = some (.slice sa sn sc) := (Zc hA).trans rfl; have qb0 : w1.cell? ⟨w.heap.size + 1, 0, none⟩ = some (.int .i64 t.N) := (Zc hB).trans rfl; have qb1 : w1.cell? ⟨w.heap.size + 1, 1, none⟩ = some (.slice a1 t.S.length c1) := (Zc hB).trans rfl; have qb2 : w1.cell? ⟨w.heap.size + 1, 2, none⟩ = some (.bool zt) := (Zc hB).trans rfl; have qb3 : w1.cell? ⟨w.heap.size + 1, 3, none⟩ = some (.slice a3 t.L.length c3) := (Zc hB).trans rfl; have qb4 : w1.cell? ⟨w.heap.size + 1, 4, none⟩ = some (.slice a4 t.U.length c4) := (Zc hB).trans rfl; have qc0 : w1.cell? ⟨w.heap.size + 2, 0, none⟩ = some (.int .i64 x.N) := (Zc hC).trans rfl; have qc1 : w1.cell? ⟨w.heap.size + 2, 1, none⟩ = some (.slice a5 x.S.length c5) := (Zc hC).trans rfl; have qc2 : w1.cell? ⟨w.heap.size + 2, 2, none⟩ = some (.bool false) := (Zc hC).trans rfl; have qc3 : w1.cell? ⟨w.heap.size + 2, 3, none⟩ = some (.slice a6 x.L.length c6) := (Zc hC).trans rfl; have qc4 : w1.cell? ⟨w.heap.size + 2, 4, none⟩ = some (.slice a7 x.U.length c7) := (Zc hC).trans rfl; have hw1s : w.heap.size + 2 < w1.heap.size := (by have := hm1.size; simp at this; omega); have hw2s : w.heap.size < w1.heap.size := (by omega); have hw3s : w.heap.size + 1 < w1.heap.size := (by omega); have HA := Lib.hid hA; have HBx := Lib.hid hB; have HC := Lib.hid hC; clear hA hB hC) | (go_at_call 17; refine (HT.out _ (((((Mod.refl w).alloc _).alloc _).alloc _).trans hm1)).mono ?_; rintro e w5 ⟨rfl, hm5⟩))
    go_ret
    exact ⟨rfl, (((((Mod.refl w).alloc _).alloc _).alloc _).trans hm1).trans hm5⟩
   ·go_enter Tryz.func54, Tryz.ntmps54
    go_wp2_with (first | (go_at_call 118; refine null_c.mono ?_; rintro e w1 ⟨b, rfl, hb, hm1⟩; obtain ⟨hA, hB, hC⟩ := three_boxes hm1; have hbb : b = false := (nullW_iff (by rw [HTZ.out]; exact hb)).trans HB0.out; subst hbb; clear hb; have qa0 : w1.cell? ⟨w.heap.size, 0, none⟩ = some (.int .i64 10) := (Zc hA).trans rfl; have qa1 : w1.cell? ⟨w.heap.size, 1, none⟩ = some (.int .i64 fr) := (Zc hA).trans rfl; have qa2 : w1.cell? ⟨w.heap.size, 2, none⟩ = some (.int .i64 to) := (Zc hA).trans rfl; have qa3 : w1.cell? ⟨w.heap.size, 3, none⟩ = some (.int .i64 nl) := (Zc hA).trans rfl; have qa4 : w1.cell? ⟨w.heap.size, 4, none⟩ = some (.int .i64 g) := (Zc hA).trans rfl; have qa5 : w1.cell? ⟨w.heap.size, 5, none⟩ = some (.int .i64 d) := (Zc hA).trans rfl; have qa6 : w1.cell? ⟨w.heap.size, 6, none⟩ = some (.int .i64 o) := (Zc hA).trans rfl; have qa7 : w1.cell? ⟨w.heap.size, 7, none⟩ = some (.slice sa sn sc) := (Zc hA).trans rfl; have qb0 : w1.cell? ⟨w.heap.size + 1, 0, none⟩ = some (.int .i64 t.N) := (Zc hB).trans rfl; have qb1 : w1.cell? ⟨w.heap.size + 1, 1, none⟩ = some (.slice a1 t.S.length c1) := (Zc hB).trans rfl; have qb2 : w1.cell? ⟨w.heap.size + 1, 2, none⟩ = some (.bool zt) := (Zc hB).trans rfl; have qb3 : w1.cell? ⟨w.heap.size + 1, 3, none⟩ = some (.slice a3 t.L.length c3) := (Zc hB).trans rfl; have qb4 : w1.cell? ⟨w.heap.size + 1, 4, none⟩ = some (.slice a4 t.U.length c4) := (Zc hB).trans rfl; have qc0 : w1.cell? ⟨w.heap.size + 2, 0, none⟩ = some (.int .i64 x.N) := (Zc hC).trans rfl; have qc1 : w1.cell? ⟨w.heap.size + 2, 1, none⟩ = some (.slice a5 x.S.length c5) := (Zc hC).trans rfl; have qc2 : w1.cell? ⟨w.heap.size + 2, 2, none⟩ = some (.bool false) := (Zc hC).trans rfl; have qc3 : w1.cell? ⟨w.heap.size + 2, 3, none⟩ = some (.slice a6 x.L.length c6) := (Zc hC).trans rfl; have qc4 : w1.cell? ⟨w.heap.size + 2, 4, none⟩ = some (.slice a7 x.U.length c7) := (Zc hC).trans rfl; have hw1s : w.heap.size + 2 < w1.heap.size := (by have := hm1.size; simp at this; omega); have hw2s : w.heap.size < w1.heap.size := (by omega); have hw3s : w.heap.size + 1 < w1.heap.size := (by omega); have HA := Lib.hid hA; have HBx := Lib.hid hB; have HC := Lib.hid hC; clear hA hB hC) | (go_at_call 17; refine (HT.out _ (((((Mod.refl w).alloc _).alloc _).alloc _).trans hm1)).mono ?_; rintro e w5 ⟨rfl, hm5⟩))
    go_ret
    exact ⟨rfl, (((((Mod.refl w).alloc _).alloc _).alloc _).trans hm1).trans hm5⟩
/-- where the things of a list lie -/
theorem elems_at {w : World} {ao : Option Addr} {n cap sz : Nat} {f : Nat -> Nat -> Value} (h : ElemsI w (.slice ao n cap) n sz f) {i : Nat} (hi : i < n) : ∃ k off, ao = some ⟨k, off, none⟩ /\ ∃ C T fr, w.heap[k]? = some (.cells C T fr) /\ ∀ i, i < n -> ∀ j, j < sz -> C[off + i * sz + j]? = some (f i j) := by
 rcases h with ⟨h0, _⟩ | ⟨k, off, cap', C, T, fr, r1, r2, r3, r4, r5⟩
 ·omega
 ·obtain ⟨rfl, rfl⟩ : ao = some ⟨k, off, none⟩ /\ cap = cap' := by simpa using r1
  exact ⟨k, off, rfl, C, T, fr, r4, r5⟩
theorem elem_tree {w : World} {g : Nat -> Value} {t : Tr} {C : Array Value} {o : Nat} (h : TreeI w g t) (hC : ∀ j, j < 5 -> C[o + j]? = some (g j)) : ∃ ca : Array Value, ca.size = 5 /\ TreeI w (from' ca 0) t /\ ∀ j v, ca.toList[j]? = some v -> C[o + j]? = some v := by
 refine ⟨#[g 0, g 1, g 2, g 3, g 4], rfl, h.congr fun j hj => ?_, fun j v hv => ?_⟩
 ·rcases (by omega : j = 0 \/ j = 1 \/ j = 2 \/ j = 3 \/ j = 4) with rfl | rfl | rfl | rfl | rfl <;> rfl
 ·have hj : j < 5 := by
   have := (List.getElem?_eq_some_iff.1 hv).1
   simp at this; omega
  rw [hC j hj, <- hv]
  rcases (by omega : j = 0 \/ j = 1 \/ j = 2 \/ j = 3 \/ j = 4) with rfl | rfl | rfl | rfl | rfl <;> rfl
set_option maxRecDepth 100000 in
set_option maxHeartbeats 8000000 in
/-- a field that is a list -/
theorem told_list {w : World} {fr to nl g d o ver : Int} {sa : Option Addr} {sn sc : Nat} {flex : Bool} {cs cx : Array Value} {t x : Tr} (hcs : cs.size = 5) (hcx : cx.size = 5) (ht : TreeI w (from' cs 0) t) (hx : TreeI w (from' cx 0) x)
  (hz : (0 <= nl /\ nl <= ver) -> x.Z = nullW nl ver t) (hlen : nullW nl ver t = false -> x.L.length = (t.L.take 32767).length)
  (hT : nullW nl ver t = false -> ∀ W i (h : i < t.L.length) (h' : i < x.L.length) ca cb, i < 32767 -> Mod none' w W -> ca.size = 5 -> cb.size = 5 -> TreeI W (from' ca 0) t.L[i] -> TreeI W (from' cb 0) x.L[i] -> ToldC #[.int .i64 o, .int .i64 fr, .int .i64 to, .int .i64 (-1), .int .i64 (-1), .int .i64 d, .int .i64 o, .slice sa sn sc] ca cb ver flex W) :
  ToldC #[.int .i64 11, .int .i64 fr, .int .i64 to, .int .i64 nl, .int .i64 g, .int .i64 d, .int .i64 o, .slice sa sn sc] cs cx ver flex w := by
 obtain ⟨lf, hE, hL⟩ := ht.L
 obtain ⟨xf, hEx, hLx⟩ := hx.L
 obtain ⟨a1, c1, a3, c3, a4, c4, rfl, hfit, ho, ht'⟩ := TreeI.lit hcs ht
 obtain ⟨a5, c5, a6, c6, a7, c7, rfl, hfx, hox, hx'⟩ := TreeI.lit hcx hx
 replace hE : ElemsI w (.slice a3 t.L.length c3) t.L.length 5 lf := hE
 replace hEx : ElemsI w (.slice a6 x.L.length c6) x.L.length 5 xf := hEx
 unfold ToldC
 clear ht hx hcs hcx
 obtain ⟨zt, htz⟩ : ∃ z, t.Z = z := ⟨_, rfl⟩
 obtain ⟨zx, hxz⟩ : ∃ z, x.Z = z := ⟨_, rfl⟩
 rw [hxz] at hz
 rw [htz] at ht'
 rw [hxz] at hx'
 simp only [htz, hxz] at hT ⊢
 cases hb0 : nullW nl ver t with
 | true =>
  rw [hb0] at hz
  have HB0 := Lib.hid hb0
  obtain ⟨hz0, hq1, hq2⟩ := nullW_true hb0
  obtain rfl : zx = true := hz ⟨hq1, hq2⟩
  obtain rfl : zt = true := htz.symm.trans hz0
  have HTZ := Lib.hid htz
  clear hb0 hT htz hxz hz0 hlen hL hLx
  go_enter Tryz.func54, Tryz.ntmps54
  go_wp2_with (first | (go_at_call 118; refine null_c.mono ?_; rintro e w1 ⟨b, rfl, hb, hm1⟩; obtain ⟨hA, hB, hC⟩ := three_boxes hm1; have hbb : b = true := (nullW_iff (by rw [HTZ.out]; exact hb)).trans HB0.out; subst hbb; clear hb; have qa0 : w1.cell? ⟨w.heap.size, 0, none⟩ = some (.int .i64 11) := (Zc hA).trans rfl; have qa1 : w1.cell? ⟨w.heap.size, 1, none⟩ = some (.int .i64 fr) := (Zc hA).trans rfl; have qa2 : w1.cell? ⟨w.heap.size, 2, none⟩ = some (.int .i64 to) := (Zc hA).trans rfl; have qa3 : w1.cell? ⟨w.heap.size, 3, none⟩ = some (.int .i64 nl) := (Zc hA).trans rfl; have qa4 : w1.cell? ⟨w.heap.size, 4, none⟩ = some (.int .i64 g) := (Zc hA).trans rfl; have qa5 : w1.cell? ⟨w.heap.size, 5, none⟩ = some (.int .i64 d) := (Zc hA).trans rfl; have qa6 : w1.cell? ⟨w.heap.size, 6, none⟩ = some (.int .i64 o) := (Zc hA).trans rfl; have qa7 : w1.cell? ⟨w.heap.size, 7, none⟩ = some (.slice sa sn sc) := (Zc hA).trans rfl; have qb0 : w1.cell? ⟨w.heap.size + 1, 0, none⟩ = some (.int .i64 t.N) := (Zc hB).trans rfl; have qb1 : w1.cell? ⟨w.heap.size + 1, 1, none⟩ = some (.slice a1 t.S.length c1) := (Zc hB).trans rfl; have qb2 : w1.cell? ⟨w.heap.size + 1, 2, none⟩ = some (.bool true) := (Zc hB).trans rfl; have qb3 : w1.cell? ⟨w.heap.size + 1, 3, none⟩ = some (.slice a3 t.L.length c3) := (Zc hB).trans rfl; have qb4 : w1.cell? ⟨w.heap.size + 1, 4, none⟩ = some (.slice a4 t.U.length c4) := (Zc hB).trans rfl; have qc0 : w1.cell? ⟨w.heap.size + 2, 0, none⟩ = some (.int .i64 x.N) := (Zc hC).trans rfl; have qc1 : w1.cell? ⟨w.heap.size + 2, 1, none⟩ = some (.slice a5 x.S.length c5) := (Zc hC).trans rfl; have qc2 : w1.cell? ⟨w.heap.size + 2, 2, none⟩ = some (.bool true) := (Zc hC).trans rfl; have qc3 : w1.cell? ⟨w.heap.size + 2, 3, none⟩ = some (.slice a6 x.L.length c6) := (Zc hC).trans rfl; have qc4 : w1.cell? ⟨w.heap.size + 2, 4, none⟩ = some (.slice a7 x.U.length c7) := (Zc hC).trans rfl; have hw1s : w.heap.size + 2 < w1.heap.size := (by have := hm1.size; simp at this; omega); have hw2s : w.heap.size < w1.heap.size := (by omega); have hw3s : w.heap.size + 1 < w1.heap.size := (by omega); have HA := Lib.hid hA; have HBx := Lib.hid hB; have HC := Lib.hid hC; clear hA hB hC))
  go_ret
  exact ⟨rfl, ((((Mod.refl w).alloc _).alloc _).alloc _).trans hm1⟩
 | false =>
  obtain ⟨l, hl⟩ : ∃ l, l = t.L.take 32767 := ⟨_, rfl⟩
  have hll : l.length = min t.L.length 32767 := by rw [hl]; simp; omega
  have hl7 : l.length <= 32767 := by omega
  have hxl := hlen hb0
  rw [<- hl] at hxl
  rw [hxl] at hEx hx' ⊢
  rw [hb0] at hz
  have HB0 := Lib.hid hb0
  have HTZ := Lib.hid htz
  have HT := Lib.hid (hT hb0)
  have HL := Lib.hid hl
  have HLL := Lib.hid hll
  have HXL := Lib.hid hxl
  have HLI := Lib.hid hL
  have HLX := Lib.hid hLx
  clear hb0 hT htz hxz hl hll hlen hxl hL hLx
  rcases Int.lt_or_le nl 0 with hq1 | hq1
  ·go_enter Tryz.func54, Tryz.ntmps54
   go_wp2_with (first | (go_at_call 118; refine null_c.mono ?_; rintro e w1 ⟨b, rfl, hb, hm1⟩; obtain ⟨hA, hB, hC⟩ := three_boxes hm1; have hbb : b = false := (nullW_iff (by rw [HTZ.out]; exact hb)).trans HB0.out; subst hbb; clear hb; have qa0 : w1.cell? ⟨w.heap.size, 0, none⟩ = some (.int .i64 11) := (Zc hA).trans rfl; have qa1 : w1.cell? ⟨w.heap.size, 1, none⟩ = some (.int .i64 fr) := (Zc hA).trans rfl; have qa2 : w1.cell? ⟨w.heap.size, 2, none⟩ = some (.int .i64 to) := (Zc hA).trans rfl; have qa3 : w1.cell? ⟨w.heap.size, 3, none⟩ = some (.int .i64 nl) := (Zc hA).trans rfl; have qa4 : w1.cell? ⟨w.heap.size, 4, none⟩ = some (.int .i64 g) := (Zc hA).trans rfl; have qa5 : w1.cell? ⟨w.heap.size, 5, none⟩ = some (.int .i64 d) := (Zc hA).trans rfl; have qa6 : w1.cell? ⟨w.heap.size, 6, none⟩ = some (.int .i64 o) := (Zc hA).trans rfl; have qa7 : w1.cell? ⟨w.heap.size, 7, none⟩ = some (.slice sa sn sc) := (Zc hA).trans rfl; have qb0 : w1.cell? ⟨w.heap.size + 1, 0, none⟩ = some (.int .i64 t.N) := (Zc hB).trans rfl; have qb1 : w1.cell? ⟨w.heap.size + 1, 1, none⟩ = some (.slice a1 t.S.length c1) := (Zc hB).trans rfl; have qb2 : w1.cell? ⟨w.heap.size + 1, 2, none⟩ = some (.bool zt) := (Zc hB).trans rfl; have qb3 : w1.cell? ⟨w.heap.size + 1, 3, none⟩ = some (.slice a3 t.L.length c3) := (Zc hB).trans rfl; have qb4 : w1.cell? ⟨w.heap.size + 1, 4, none⟩ = some (.slice a4 t.U.length c4) := (Zc hB).trans rfl; have qc0 : w1.cell? ⟨w.heap.size + 2, 0, none⟩ = some (.int .i64 x.N) := (Zc hC).trans rfl; have qc1 : w1.cell? ⟨w.heap.size + 2, 1, none⟩ = some (.slice a5 x.S.length c5) := (Zc hC).trans rfl; have qc2 : w1.cell? ⟨w.heap.size + 2, 2, none⟩ = some (.bool zx) := (Zc hC).trans rfl; have qc3 : w1.cell? ⟨w.heap.size + 2, 3, none⟩ = some (.slice a6 l.length c6) := (Zc hC).trans rfl; have qc4 : w1.cell? ⟨w.heap.size + 2, 4, none⟩ = some (.slice a7 x.U.length c7) := (Zc hC).trans rfl; have hw1s : w.heap.size + 2 < w1.heap.size := (by have := hm1.size; simp at this; omega); have hw2s : w.heap.size < w1.heap.size := (by omega); have hw3s : w.heap.size + 1 < w1.heap.size := (by omega); have HA := Lib.hid hA; have HBx := Lib.hid hB; have HC := Lib.hid hC; clear hA hB hC) | (go_at_call 119; refine (things_c (hE.mod (((((Mod.refl w).alloc _).alloc _).alloc _).trans hm1))).mono ?_; rintro e w2 ⟨rfl, v2, rfl, hE2⟩; rw [<- HLL.out] at hE2; obtain ⟨a2, c2, rfl⟩ := hE2.slice))
   go_loopw [98] (fun i wr => ∃ k : Nat, k <= l.length /\ i = .int .i64 k /\ Mod none' w1 wr /\ wr.heap[w1.heap.size]? = some (.cells #[.int .i64 o, .int .i64 fr, .int .i64 to, .int .i64 (-1), .int .i64 (-1), .int .i64 d, .int .i64 o, .slice sa sn sc] 56 (0, 0))) (fun i _ => l.length - (Go.RowKit.intOf i).toNat)
   case atStart => exact ⟨0, by omega, rfl, (Mod.refl w1).alloc _, Zh w1 _⟩
   case round =>
    obtain ⟨k, hk, rfl, hm3, hF⟩ := hrel
    have hm03 : Mod none' w wr := (((((Mod.refl w).alloc _).alloc _).alloc _).trans hm1).trans hm3
    by_cases hlt : k < l.length
    ·have hll := HLL.out
     obtain ⟨kb, off, rfl, C, Tk, fr', hC1, hC2⟩ := elems_at (hE2.mod hm3) hlt
     obtain ⟨kb2, off2, rfl, D, Tk2, fr2, hD1, hD2⟩ := elems_at (hEx.mod hm03) hlt
     have hit : k < t.L.length := by omega
     have hix : k < x.L.length := by rw [HXL.out]; exact hlt
     obtain ⟨ca, hca, hTa, hCa⟩ := elem_tree (HLI.out k hit) (fun j hj => hC2 k hlt j hj)
     obtain ⟨cb, hcb, hTb, hCb⟩ := elem_tree (HLX.out k hix) (fun j hj => hD2 k hlt j hj)
     have H1 := Lib.hid hCa
     have H2 := Lib.hid hCb
     have HF := Lib.hid hF
     have HC1 := Lib.hid hC1
     have HD1 := Lib.hid hD1
     clear hCa hCb hF hC1 hC2 hD1 hD2 hll
     go_wp2
     rename_i K hK
     refine wp_mono (told_elem (b9 := w.heap.size + 1 + 1) (b15 := w1.heap.size) (k := kb) (off := off) (n := l.length) (cap := c2) (k2 := kb2) (off2 := off2) (n2 := l.length) (cap2 := c6) (i := k) (ver := ver) (flex := flex) (cs := ca) (cx := cb) rfl rfl rfl rfl rfl rfl rfl HF.out rfl ((hm3.some HC.out (fun f => f))) rfl hlt hlt HC1.out H1.out hca HD1.out H2.out hcb (fun W hm => HT.out W k hit hix ca cb (by omega) (hm03.trans hm) hca hcb (hTa.mod (hm03.trans hm)) (hTb.mod (hm03.trans hm)))) ?_
     rintro e a' w4 ⟨rfl, hs4, hm4, h114⟩
     refine hK a' w4 ?_
     have e := hs4.eq
     simp only [List.foldl] at e
     rw [h114] at e
     rw [e]
     generalize Act.get a' 101 = v101, Act.get a' 102 = v102, Act.get a' 103 = v103, Act.get a' 104 = v104, Act.get a' 105 = v105, Act.get a' 106 = v106, Act.get a' 107 = v107, Act.get a' 108 = v108, Act.get a' 109 = v109, Act.get a' 110 = v110, Act.get a' 111 = v111, Act.get a' 112 = v112, Act.get a' 113 = v113
     clear e hs4 h114
     simp only [Act.put, List.setIfInBounds_toArray, List.set_cons_succ, List.set_cons_zero]
     have hm5 := hm3.trans hm4
     have hF2 := hm4.some HF.out (fun f => f)
     have HF2 := Lib.hid hF2
     clear hF2
     go_wp2
     go_roundw
     case rel => exact ⟨k + 1, by omega, by go_num, hm5, HF2.out⟩
     case measure => first | omega | (simp [Go.RowKit.intOf]; omega)
    ·have HF := Lib.hid hF
     clear hF
     go_wp2
     go_ret
     exact ⟨rfl, hm03⟩
  ·rcases Int.lt_or_le ver nl with hq2 | hq2
   ·go_enter Tryz.func54, Tryz.ntmps54
    go_wp2_with (first | (go_at_call 118; refine null_c.mono ?_; rintro e w1 ⟨b, rfl, hb, hm1⟩; obtain ⟨hA, hB, hC⟩ := three_boxes hm1; have hbb : b = false := (nullW_iff (by rw [HTZ.out]; exact hb)).trans HB0.out; subst hbb; clear hb; have qa0 : w1.cell? ⟨w.heap.size, 0, none⟩ = some (.int .i64 11) := (Zc hA).trans rfl; have qa1 : w1.cell? ⟨w.heap.size, 1, none⟩ = some (.int .i64 fr) := (Zc hA).trans rfl; have qa2 : w1.cell? ⟨w.heap.size, 2, none⟩ = some (.int .i64 to) := (Zc hA).trans rfl; have qa3 : w1.cell? ⟨w.heap.size, 3, none⟩ = some (.int .i64 nl) := (Zc hA).trans rfl; have qa4 : w1.cell? ⟨w.heap.size, 4, none⟩ = some (.int .i64 g) := (Zc hA).trans rfl; have qa5 : w1.cell? ⟨w.heap.size, 5, none⟩ = some (.int .i64 d) := (Zc hA).trans rfl; have qa6 : w1.cell? ⟨w.heap.size, 6, none⟩ = some (.int .i64 o) := (Zc hA).trans rfl; have qa7 : w1.cell? ⟨w.heap.size, 7, none⟩ = some (.slice sa sn sc) := (Zc hA).trans rfl; have qb0 : w1.cell? ⟨w.heap.size + 1, 0, none⟩ = some (.int .i64 t.N) := (Zc hB).trans rfl; have qb1 : w1.cell? ⟨w.heap.size + 1, 1, none⟩ = some (.slice a1 t.S.length c1) := (Zc hB).trans rfl; have qb2 : w1.cell? ⟨w.heap.size + 1, 2, none⟩ = some (.bool zt) := (Zc hB).trans rfl; have qb3 : w1.cell? ⟨w.heap.size + 1, 3, none⟩ = some (.slice a3 t.L.length c3) := (Zc hB).trans rfl; have qb4 : w1.cell? ⟨w.heap.size + 1, 4, none⟩ = some (.slice a4 t.U.length c4) := (Zc hB).trans rfl; have qc0 : w1.cell? ⟨w.heap.size + 2, 0, none⟩ = some (.int .i64 x.N) := (Zc hC).trans rfl; have qc1 : w1.cell? ⟨w.heap.size + 2, 1, none⟩ = some (.slice a5 x.S.length c5) := (Zc hC).trans rfl; have qc2 : w1.cell? ⟨w.heap.size + 2, 2, none⟩ = some (.bool zx) := (Zc hC).trans rfl; have qc3 : w1.cell? ⟨w.heap.size + 2, 3, none⟩ = some (.slice a6 l.length c6) := (Zc hC).trans rfl; have qc4 : w1.cell? ⟨w.heap.size + 2, 4, none⟩ = some (.slice a7 x.U.length c7) := (Zc hC).trans rfl; have hw1s : w.heap.size + 2 < w1.heap.size := (by have := hm1.size; simp at this; omega); have hw2s : w.heap.size < w1.heap.size := (by omega); have hw3s : w.heap.size + 1 < w1.heap.size := (by omega); have HA := Lib.hid hA; have HBx := Lib.hid hB; have HC := Lib.hid hC; clear hA hB hC) | (go_at_call 119; refine (things_c (hE.mod (((((Mod.refl w).alloc _).alloc _).alloc _).trans hm1))).mono ?_; rintro e w2 ⟨rfl, v2, rfl, hE2⟩; rw [<- HLL.out] at hE2; obtain ⟨a2, c2, rfl⟩ := hE2.slice))
    go_loopw [98] (fun i wr => ∃ k : Nat, k <= l.length /\ i = .int .i64 k /\ Mod none' w1 wr /\ wr.heap[w1.heap.size]? = some (.cells #[.int .i64 o, .int .i64 fr, .int .i64 to, .int .i64 (-1), .int .i64 (-1), .int .i64 d, .int .i64 o, .slice sa sn sc] 56 (0, 0))) (fun i _ => l.length - (Go.RowKit.intOf i).toNat)
    case atStart => exact ⟨0, by omega, rfl, (Mod.refl w1).alloc _, Zh w1 _⟩
    case round =>
     obtain ⟨k, hk, rfl, hm3, hF⟩ := hrel
     have hm03 : Mod none' w wr := (((((Mod.refl w).alloc _).alloc _).alloc _).trans hm1).trans hm3
     by_cases hlt : k < l.length
     ·have hll := HLL.out
      obtain ⟨kb, off, rfl, C, Tk, fr', hC1, hC2⟩ := elems_at (hE2.mod hm3) hlt
      obtain ⟨kb2, off2, rfl, D, Tk2, fr2, hD1, hD2⟩ := elems_at (hEx.mod hm03) hlt
      have hit : k < t.L.length := by omega
      have hix : k < x.L.length := by rw [HXL.out]; exact hlt
      obtain ⟨ca, hca, hTa, hCa⟩ := elem_tree (HLI.out k hit) (fun j hj => hC2 k hlt j hj)
      obtain ⟨cb, hcb, hTb, hCb⟩ := elem_tree (HLX.out k hix) (fun j hj => hD2 k hlt j hj)
      have H1 := Lib.hid hCa
      have H2 := Lib.hid hCb
      have HF := Lib.hid hF
      have HC1 := Lib.hid hC1
      have HD1 := Lib.hid hD1
      clear hCa hCb hF hC1 hC2 hD1 hD2 hll
      go_wp2
      rename_i K hK
      refine wp_mono (told_elem (b9 := w.heap.size + 1 + 1) (b15 := w1.heap.size) (k := kb) (off := off) (n := l.length) (cap := c2) (k2 := kb2) (off2 := off2) (n2 := l.length) (cap2 := c6) (i := k) (ver := ver) (flex := flex) (cs := ca) (cx := cb) rfl rfl rfl rfl rfl rfl rfl HF.out rfl ((hm3.some HC.out (fun f => f))) rfl hlt hlt HC1.out H1.out hca HD1.out H2.out hcb (fun W hm => HT.out W k hit hix ca cb (by omega) (hm03.trans hm) hca hcb (hTa.mod (hm03.trans hm)) (hTb.mod (hm03.trans hm)))) ?_
      rintro e a' w4 ⟨rfl, hs4, hm4, h114⟩
      refine hK a' w4 ?_
      have e := hs4.eq
      simp only [List.foldl] at e
      rw [h114] at e
      rw [e]
      generalize Act.get a' 101 = v101, Act.get a' 102 = v102, Act.get a' 103 = v103, Act.get a' 104 = v104, Act.get a' 105 = v105, Act.get a' 106 = v106, Act.get a' 107 = v107, Act.get a' 108 = v108, Act.get a' 109 = v109, Act.get a' 110 = v110, Act.get a' 111 = v111, Act.get a' 112 = v112, Act.get a' 113 = v113
      clear e hs4 h114
      simp only [Act.put, List.setIfInBounds_toArray, List.set_cons_succ, List.set_cons_zero]
      have hm5 := hm3.trans hm4
      have hF2 := hm4.some HF.out (fun f => f)
      have HF2 := Lib.hid hF2
      clear hF2
      go_wp2
      go_roundw
      case rel => exact ⟨k + 1, by omega, by go_num, hm5, HF2.out⟩
      case measure => first | omega | (simp [Go.RowKit.intOf]; omega)
     ·have HF := Lib.hid hF
      clear hF
      go_wp2
      go_ret
      exact ⟨rfl, hm03⟩
   ·go_enter Tryz.func54, Tryz.ntmps54
    go_wp2_with (first | (go_at_call 118; refine null_c.mono ?_; rintro e w1 ⟨b, rfl, hb, hm1⟩; obtain ⟨hA, hB, hC⟩ := three_boxes hm1; have hbb : b = false := (nullW_iff (by rw [HTZ.out]; exact hb)).trans HB0.out; subst hbb; clear hb; have qa0 : w1.cell? ⟨w.heap.size, 0, none⟩ = some (.int .i64 11) := (Zc hA).trans rfl; have qa1 : w1.cell? ⟨w.heap.size, 1, none⟩ = some (.int .i64 fr) := (Zc hA).trans rfl; have qa2 : w1.cell? ⟨w.heap.size, 2, none⟩ = some (.int .i64 to) := (Zc hA).trans rfl; have qa3 : w1.cell? ⟨w.heap.size, 3, none⟩ = some (.int .i64 nl) := (Zc hA).trans rfl; have qa4 : w1.cell? ⟨w.heap.size, 4, none⟩ = some (.int .i64 g) := (Zc hA).trans rfl; have qa5 : w1.cell? ⟨w.heap.size, 5, none⟩ = some (.int .i64 d) := (Zc hA).trans rfl; have qa6 : w1.cell? ⟨w.heap.size, 6, none⟩ = some (.int .i64 o) := (Zc hA).trans rfl; have qa7 : w1.cell? ⟨w.heap.size, 7, none⟩ = some (.slice sa sn sc) := (Zc hA).trans rfl; have qb0 : w1.cell? ⟨w.heap.size + 1, 0, none⟩ = some (.int .i64 t.N) := (Zc hB).trans rfl; have qb1 : w1.cell? ⟨w.heap.size + 1, 1, none⟩ = some (.slice a1 t.S.length c1) := (Zc hB).trans rfl; have qb2 : w1.cell? ⟨w.heap.size + 1, 2, none⟩ = some (.bool zt) := (Zc hB).trans rfl; have qb3 : w1.cell? ⟨w.heap.size + 1, 3, none⟩ = some (.slice a3 t.L.length c3) := (Zc hB).trans rfl; have qb4 : w1.cell? ⟨w.heap.size + 1, 4, none⟩ = some (.slice a4 t.U.length c4) := (Zc hB).trans rfl; have qc0 : w1.cell? ⟨w.heap.size + 2, 0, none⟩ = some (.int .i64 x.N) := (Zc hC).trans rfl; have qc1 : w1.cell? ⟨w.heap.size + 2, 1, none⟩ = some (.slice a5 x.S.length c5) := (Zc hC).trans rfl; have qc2 : w1.cell? ⟨w.heap.size + 2, 2, none⟩ = some (.bool false) := (Zc hC).trans rfl; have qc3 : w1.cell? ⟨w.heap.size + 2, 3, none⟩ = some (.slice a6 l.length c6) := (Zc hC).trans rfl; have qc4 : w1.cell? ⟨w.heap.size + 2, 4, none⟩ = some (.slice a7 x.U.length c7) := (Zc hC).trans rfl; have hw1s : w.heap.size + 2 < w1.heap.size := (by have := hm1.size; simp at this; omega); have hw2s : w.heap.size < w1.heap.size := (by omega); have hw3s : w.heap.size + 1 < w1.heap.size := (by omega); have HA := Lib.hid hA; have HBx := Lib.hid hB; have HC := Lib.hid hC; clear hA hB hC) | (go_at_call 119; refine (things_c (hE.mod (((((Mod.refl w).alloc _).alloc _).alloc _).trans hm1))).mono ?_; rintro e w2 ⟨rfl, v2, rfl, hE2⟩; rw [<- HLL.out] at hE2; obtain ⟨a2, c2, rfl⟩ := hE2.slice))
    go_loopw [98] (fun i wr => ∃ k : Nat, k <= l.length /\ i = .int .i64 k /\ Mod none' w1 wr /\ wr.heap[w1.heap.size]? = some (.cells #[.int .i64 o, .int .i64 fr, .int .i64 to, .int .i64 (-1), .int .i64 (-1), .int .i64 d, .int .i64 o, .slice sa sn sc] 56 (0, 0))) (fun i _ => l.length - (Go.RowKit.intOf i).toNat)
    case atStart => exact ⟨0, by omega, rfl, (Mod.refl w1).alloc _, Zh w1 _⟩
    case round =>
     obtain ⟨k, hk, rfl, hm3, hF⟩ := hrel
     have hm03 : Mod none' w wr := (((((Mod.refl w).alloc _).alloc _).alloc _).trans hm1).trans hm3
     by_cases hlt : k < l.length
     ·have hll := HLL.out
      obtain ⟨kb, off, rfl, C, Tk, fr', hC1, hC2⟩ := elems_at (hE2.mod hm3) hlt
      obtain ⟨kb2, off2, rfl, D, Tk2, fr2, hD1, hD2⟩ := elems_at (hEx.mod hm03) hlt
      have hit : k < t.L.length := by omega
      have hix : k < x.L.length := by rw [HXL.out]; exact hlt
      obtain ⟨ca, hca, hTa, hCa⟩ := elem_tree (HLI.out k hit) (fun j hj => hC2 k hlt j hj)
      obtain ⟨cb, hcb, hTb, hCb⟩ := elem_tree (HLX.out k hix) (fun j hj => hD2 k hlt j hj)
      have H1 := Lib.hid hCa
      have H2 := Lib.hid hCb
      have HF := Lib.hid hF
      have HC1 := Lib.hid hC1
      have HD1 := Lib.hid hD1
      clear hCa hCb hF hC1 hC2 hD1 hD2 hll
      go_wp2
      rename_i K hK
      refine wp_mono (told_elem (b9 := w.heap.size + 1 + 1) (b15 := w1.heap.size) (k := kb) (off := off) (n := l.length) (cap := c2) (k2 := kb2) (off2 := off2) (n2 := l.length) (cap2 := c6) (i := k) (ver := ver) (flex := flex) (cs := ca) (cx := cb) rfl rfl rfl rfl rfl rfl rfl HF.out rfl ((hm3.some HC.out (fun f => f))) rfl hlt hlt HC1.out H1.out hca HD1.out H2.out hcb (fun W hm => HT.out W k hit hix ca cb (by omega) (hm03.trans hm) hca hcb (hTa.mod (hm03.trans hm)) (hTb.mod (hm03.trans hm)))) ?_
      rintro e a' w4 ⟨rfl, hs4, hm4, h114⟩
      refine hK a' w4 ?_
      have e := hs4.eq
      simp only [List.foldl] at e
      rw [h114] at e
      rw [e]
      generalize Act.get a' 101 = v101, Act.get a' 102 = v102, Act.get a' 103 = v103, Act.get a' 104 = v104, Act.get a' 105 = v105, Act.get a' 106 = v106, Act.get a' 107 = v107, Act.get a' 108 = v108, Act.get a' 109 = v109, Act.get a' 110 = v110, Act.get a' 111 = v111, Act.get a' 112 = v112, Act.get a' 113 = v113
      clear e hs4 h114
      simp only [Act.put, List.setIfInBounds_toArray, List.set_cons_succ, List.set_cons_zero]
      have hm5 := hm3.trans hm4
      have hF2 := hm4.some HF.out (fun f => f)
      have HF2 := Lib.hid hF2
      clear hF2
      go_wp2
      go_roundw
      case rel => exact ⟨k + 1, by omega, by go_num, hm5, HF2.out⟩
      case measure => first | omega | (simp [Go.RowKit.intOf]; omega)
     ·have HF := Lib.hid hF
      clear hF
      go_wp2
      go_ret
      exact ⟨rfl, hm03⟩
end Go.Proofs.YtpecdnfmlodmaaaGreatDoorR
