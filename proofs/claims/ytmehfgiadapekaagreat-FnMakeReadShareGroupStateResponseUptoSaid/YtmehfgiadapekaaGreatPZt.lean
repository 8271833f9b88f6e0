/-
  spec.fitted: what a field says is cut to what fits.
-/
import Derived.Test.YtmehfgiadapekaaGreatPZu
set_option linter.unusedSimpArgs false
set_option linter.unusedVariables false
namespace Go.Proofs.YtmehfgiadapekaaGreat
open Go Go.RowKit
theorem TreeR.setZ {w : World} {F : Nat -> Prop} {c c' : Nat -> Value} {n : Int} {s : List UInt8} {z b : Bool} {l : List Tr} {u : Tags} (h : TreeR w F c (.mk n s z l u)) (h2 : c' 2 = .bool b) (hc : ∀ j, j ≠ 2 -> j < 5 -> c' j = c j) : TreeR w F c' (.mk n s b l u) := by
 cases h with
 | mk h0 hn h1 h2' hb h3 h3' h4 h4' => exact .mk ((hc 0 (by decide) (by decide)).trans h0) hn (by rw [hc 1 (by decide) (by decide)]; exact h1) h2 hb (by rw [hc 3 (by decide) (by decide)]; exact h3) h3' (by rw [hc 4 (by decide) (by decide)]; exact h4) h4'
/-- what fitted gives back lies in the result's cell -/
def FdDone (w0 w : World) (b6 : Nat) (y : Tr) (a : Act) (w' : World) : Prop := a.defers = [] /\ Act.get a 6 = .pointer (some ⟨b6, 0, none⟩) /\ Mod none' w w' /\ ∃ C T, w'.heap[b6]? = some (.cells C T (0, 0)) /\ C.size = 5 /\ C.all (·.oneCell') = true /\ TreeR w' (fun k => k < w0.heap.size \/ w.heap.size <= k) (from' C 0) y
set_option maxRecDepth 100000 in
set_option maxHeartbeats 4000000 in
theorem fitted_c {w0 w : World} {sv : Value} {cs : Array Value} {t : Tr} {ver kind fr to nl g d of : Int} {sub : List FD} (hg : g < 0) (hm0 : Mod none' w0 w) (hsub : FdsI w0 sv sub) (hcs : cs.size = 5) (hT : TreeI w0 (from' cs 0) t)
  (h10 : kind = 10 -> ∀ W, Mod none' w0 W -> Calls Tryz.prog 12 #[sv, .int .i64 ver, .agg cs] W fun e w' => ∃ v, e = .returned v /\ Mod none' W w' /\ TreeV w' (fun k => k < w0.heap.size \/ W.heap.size <= k) v (.mk 0 [] false (fitsW sub 0 ver t) (cutW (unkW t.U))))
  (h11 : kind = 11 -> FitOk (.mk of fr to (-1) (-1) d of sub) /\ ∀ x, fitW (.mk of fr to (-1) (-1) d of sub) ver x = if of = 10 then .part (fitsW sub 0 ver x) (cutW (unkW x.U)) else fitL of (-1) ver x) :
  Calls Tryz.prog 24 #[.agg ((FD.mk kind fr to nl g d of sub).cells sv), .int .i64 ver, .agg cs] w fun e w' => ∃ v, e = .returned v /\ Mod none' w w' /\ TreeV w' (fun k => k < w0.heap.size \/ w.heap.size <= k) v (fitW (.mk kind fr to nl g d of sub) ver t) := by
 obtain ⟨sn, scap, hsv⟩ := hsub.slice
 obtain ⟨s1, lv1, uv1, f1, g1', hce, hnN, hS, hL, hLs, hE, hEs⟩ := tree_cells hT hcs
 obtain ⟨fc, hfc⟩ : ∃ fc, fc = (FD.mk kind fr to nl g d of sub).cells sv := ⟨_, rfl⟩
 have hfc8 : fc.size = 8 := by rw [hfc]; rfl
 obtain ⟨nz, hnz⟩ : ∃ b, b = nullW nl ver t := ⟨_, rfl⟩
 rw [<- hfc]
 refine calls_of_wp Tryz.func24 rfl ?_
 rw [Tryz.ntmps24]
 refine wp_act (fun a : Act => Act.get a 0 = .agg fc /\ Act.get a 1 = .int .i64 ver /\ Act.get a 2 = .agg cs /\ a.tmps.size = 82 /\ a.defers = []) ⟨by rw [Zj _ _ _ (by simp)]; rfl, by rw [Zj _ _ _ (by simp)]; rfl, by rw [Zj _ _ _ (by simp)]; rfl, by simp, rfl⟩ ?_
 rintro a ⟨a0, a1, a2, aN, ad⟩
 obtain ⟨b6, hb6⟩ : ∃ b, b = w.heap.size + 2 := ⟨_, rfl⟩
 refine wp_mono (Q := fun e a' w' => e = .ret /\ FdDone w0 w b6 (fitW (.mk kind fr to nl g d of sub) ver t) a' w') ?_ ?_
 rotate_left
 ·rintro e a' w' ⟨rfl, hd, h6, hm, C, T, hC, hCs, hall, hTR⟩
  exact bodyPost_ret (results_cellN rfl (b := b6) (o := 0) (cs := C.toList) h6 (by rw [Array.length_toList, hCs]; kernel_rfl) (fun j v hv => by rw [Zc hC, Nat.zero_add]; simpa using hv)) hd ⟨_, rfl, hm, C, by simp, hCs, hall, hTR⟩
 refine wp_seq (wp_region_lit (Zv rfl x_box (Zv rfl x_box (Zv rfl (x_alloc zeroTree) (wpList_nil ?_)))))
 rw [show a.eval (.tmp 0) = .agg fc from a0, show ∀ v, (a.put (some 3) v).eval (.tmp 2) = .agg cs from fun v => by simp (disch := first | omega | simp only [Zs]; omega) only [Zo, Ze, Zn, Zq, a2]]
 obtain ⟨b3, hb3⟩ : ∃ b, b = w.heap.size := ⟨_, rfl⟩
 obtain ⟨r1, m1⟩ := box_tree (w := w) (cs := fc) 51
 have z1 : (w.alloc (.cells (Value.agg fc).cells 51)).heap.size = w.heap.size + 1 := by simp
 rw [<- hb3] at r1 ⊢
 generalize w.alloc (.cells (Value.agg fc).cells 51) = w1 at *
 obtain ⟨b5, hb5⟩ : ∃ b, b = w1.heap.size := ⟨_, rfl⟩
 obtain ⟨r2, m2⟩ := box_tree (w := w1) (cs := cs) 26
 have z2 : (w1.alloc (.cells (Value.agg cs).cells 26)).heap.size = w1.heap.size + 1 := by simp
 rw [<- hb5] at r2 ⊢
 generalize w1.alloc (.cells (Value.agg cs).cells 26) = w2 at *
 have r3 := Zh w2 (.cells zT 26)
 have m3 : Mod none' w2 (w2.alloc (.cells zT 26)) := (Mod.refl w2).alloc _
 have z3 : (w2.alloc (.cells zT 26)).heap.size = w2.heap.size + 1 := by simp
 rw [show w2.heap.size = b6 by omega] at r3 ⊢
 change Code.wp _ _ _ _ (w2.alloc (.cells zT 26))
 generalize w2.alloc (.cells zT 26) = w3 at *
 have m03 : Mod none' w w3 := (m1.trans m2).trans m3
 have h33 : w3.heap[b3]? = some (.cells fc 51 (0, 0)) := (m2.trans m3).some r1 (fun f => f)
 have h53 : w3.heap[b5]? = some (.cells cs 26 (0, 0)) := m3.some r2 (fun f => f)
 have hs0 := hm0.size
 refine wp_act (fun b : Act => Act.get b 1 = .int .i64 ver /\ Act.get b 3 = .pointer (some ⟨b3, 0, none⟩) /\ Act.get b 5 = .pointer (some ⟨b5, 0, none⟩) /\ Act.get b 6 = .pointer (some ⟨b6, 0, none⟩) /\ b.tmps.size = 82 /\ b.defers = []) ⟨by simp (disch := first | omega | simp only [Zs]; omega) only [Zo, Ze, Zn, Zq, a1], by simp (disch := first | omega | simp only [Zs]; omega) only [Zo, Ze, Zn, Zq], by simp (disch := first | omega | simp only [Zs]; omega) only [Zo, Ze, Zn, Zq], by simp (disch := first | omega | simp only [Zs]; omega) only [Zo, Ze, Zn, Zq], by simp only [Zs]; exact aN, by simp only [Zd]; exact ad⟩ ?_
 clear a0 a1 a2 aN ad
 rintro a ⟨a1, a3, a5, a6, aN, ad⟩
 -- whether it is null
 refine wp_seq (wp_region_lit (Zv rfl (x_loadN (cs := fc.toList) (b := b3) (o := 0) (by rw [Array.length_toList, hfc8]; kernel_rfl) (by rw [Ze]; exact a3) (fun j v hv => by rw [Zc h33, Nat.zero_add]; simpa using hv)) (Zv rfl Zm (Zv rfl (x_loadN (cs := cs.toList) (b := b5) (o := 0) (by rw [Array.length_toList, hcs]; kernel_rfl) ?_ (fun j v hv => by rw [Zc h53, Nat.zero_add]; simpa using hv)) (wpl_call rfl (Zy (by kernel_rfl) rfl) (R := fun e w' => e = .returned (.bool nz) /\ Mod none' w3 w') ?_ ?_)))))
 ·simp (disch := first | omega | simp only [Zs]; omega) only [Zo, Ze, Zn, Zq, a5]
 ·rw [show ∀ a : Act, (#[Operand.tmp 13, .tmp 14, .tmp 15] : Array Operand).map a.eval = #[Act.get a 13, Act.get a 14, Act.get a 15] from fun a => by simp [Ze]]
  simp (disch := first | omega | simp only [Zs]; omega) only [Zo, Ze, Zn, Zq, a1]
  have h := null_c (w := w3) (k := kind) (fr := fr) (to := to) (nl := nl) (g := g) (d := d) (o := of) (ver := ver) (n := t.N) (sv := sv) (s1 := s1) (s3 := lv1) (s4 := uv1) (z := t.Z)
  rw [show fc.toList.toArray = #[.int .i64 kind, .int .i64 fr, .int .i64 to, .int .i64 nl, .int .i64 g, .int .i64 d, .int .i64 of, sv] by rw [hfc]; rfl, show cs.toList.toArray = #[.int .i64 t.N, s1, .bool t.Z, lv1, uv1] by rw [hce]]
  refine h.mono ?_
  rintro e w' ⟨b, rfl, hb, hm⟩
  exact ⟨by rw [hnz, nullW_iff hb], hm⟩
 rintro e w4 ⟨rfl, m4⟩
 refine ⟨_, rfl, Zv rfl Zi (wpList_nil ?_)⟩
 have m04 := m03.trans m4
 have m004 : Mod none' w0 w4 := hm0.trans m04
 have h3 : w4.heap[b3]? = some (.cells fc 51 (0, 0)) := m4.some h33 (fun f => f)
 have h5 : w4.heap[b5]? = some (.cells cs 26 (0, 0)) := m4.some h53 (fun f => f)
 have h6 : w4.heap[b6]? = some (.cells zT 26 (0, 0)) := m4.some r3 (fun f => f)
 have hs4 := m4.size
 refine wp_act (fun b : Act => Act.get b 1 = .int .i64 ver /\ Act.get b 3 = .pointer (some ⟨b3, 0, none⟩) /\ Act.get b 5 = .pointer (some ⟨b5, 0, none⟩) /\ Act.get b 6 = .pointer (some ⟨b6, 0, none⟩) /\ Act.get b 7 = .bool nz /\ b.tmps.size = 82 /\ b.defers = []) ⟨by simp (disch := first | omega | simp only [Zs]; omega) only [Zo, Ze, Zn, Zq, a1], by simp (disch := first | omega | simp only [Zs]; omega) only [Zo, Ze, Zn, Zq, a3], by simp (disch := first | omega | simp only [Zs]; omega) only [Zo, Ze, Zn, Zq, a5], by simp (disch := first | omega | simp only [Zs]; omega) only [Zo, Ze, Zn, Zq, a6], by simp (disch := first | omega | simp only [Zs]; omega) only [Zo, Ze, Zn, Zq], by simp only [Zs]; exact aN, by simp only [Zd]; exact ad⟩ ?_
 clear a1 a3 a5 a6 aN ad
 rintro a ⟨a1, a3, a5, a6, a7, aN, ad⟩
 have hk0 : fc[0 + 0]? = some (.int .i64 kind) := by rw [hfc]; rfl
 refine wp_seq (wp_seq (wp_region_lit (Zv rfl (Za (show fieldOff Tryz.prog 51 0 = some 0 by kernel_rfl) (b := b3) (o0 := 0) (by rw [Ze]; exact a3)) (Zv rfl (Zl (by kernel_rfl) (b := b3) (o := 0 + 0) (v := .int .i64 kind) ?_ (by rw [Zc h3]; exact hk0)) (wpList_nil ?_)))))
 ·simp (disch := first | omega | simp only [Zs]; omega) only [Zo, Ze, Zn, Zq]
 have hFd : FdA ver nz kind b3 b5 b6 ((a.put (some 17) (.pointer (some ⟨b3, 0 + 0, none⟩))).put (some 18) (.int .i64 kind)) := ⟨by simp only [Zs]; exact aN, by simp only [Zd]; exact ad, by simp (disch := first | omega | simp only [Zs]; omega) only [Zo, Ze, Zn, Zq, a1], by simp (disch := first | omega | simp only [Zs]; omega) only [Zo, Ze, Zn, Zq, a3], by simp (disch := first | omega | simp only [Zs]; omega) only [Zo, Ze, Zn, Zq, a5], by simp (disch := first | omega | simp only [Zs]; omega) only [Zo, Ze, Zn, Zq, a6], by simp (disch := first | omega | simp only [Zs]; omega) only [Zo, Ze, Zn, Zq, a7], by simp (disch := first | omega | simp only [Zs]; omega) only [Zo, Ze, Zn, Zq]⟩
 refine wp_act (fun b : Act => FdA ver nz kind b3 b5 b6 b) hFd ?_
 clear hFd a1 a3 a5 a6 a7 aN ad a
 intro a hA
 have hN := hA.size
 -- what is stored into the result's cell
 have hput : ∀ (us : Array Value) (b : Act) (w5 : World) (tv : Nat), us.size = 5 -> us.all (·.oneCell') = true -> Mod none' w4 w5 -> FdA ver nz kind b3 b5 b6 b -> TreeR w5 (fun k => k < w0.heap.size \/ (b6 < k /\ k < w5.heap.size)) (from' us 0) (fitW (.mk kind fr to nl g d of sub) ver t) -> FdDone w0 w b6 (fitW (.mk kind fr to nl g d of sub) ver t) b (w5.setCells b6 0 us.toList) /\ ∀ j, j < us.size -> (w5.cell? ⟨b6, 0 + j, none⟩).isSome = true /\ w5.frozen? ⟨b6, 0 + j, none⟩ = false := fun us b w5 tv hus hall hm hB hTR => by
  have h65 := hm.some h6 (fun f => f)
  have k6 := put_tree (cs := us) h65 (by rw [hus]; rfl)
  have p6 := mod_setCells b6 w5 0 us.toList
  refine ⟨⟨hB.defers, hB.g6, (m04.trans hm).trans' p6 (fun _ _ f => f) (fun i hi e => by have e' : i = b6 := e; omega), us, _, k6, hus, hall, hTR.mod p6 (fun k hk e => by have e' : k = b6 := e; rcases hk with hk | hk <;> omega) (fun k hk => by rcases hk with hk | hk; exact .inl hk; exact .inr (by omega))⟩, fun j hj => ?_⟩
  rw [Zc h65, Zz h65, Nat.zero_add, Array.getElem?_eq_getElem (by show j < 5; omega)]
  exact ⟨rfl, rfl⟩
 have hsame : ∀ {F : Nat -> Prop} {v : Value} {bs : List UInt8} {nl : Bool}, Oct w4 F v bs nl -> True := fun _ => trivial
 by_cases hk89 : kind = 8 \/ kind = 9
 ·-- octets
  refine wp_block (wp_seq (wp_mono (Q := fun e b w' => e = .normal /\ w4 = w' /\ FdA ver nz kind b3 b5 b6 b /\ Act.get b 19 = .bool true) ?_ ?_))
  ·by_cases hk8 : kind = 8
   ·refine wp_seq (wp_region_lit (Zv rfl (x_eqlI (k := .i64) (m := kind) (n := 8) (by rw [Ze]; exact hA.g18) rfl) (Zv rfl Zi (wpList_nil ?_))))
    have e19 : Act.get ((a.put (some 20) (.bool (kind == 8))).put (some 19) ((a.put (some 20) (.bool (kind == 8))).eval (.tmp 20))) 19 = .bool true := by simp (disch := first | omega | simp only [Zs]; omega) only [Zo, Ze, Zn, Zq]; simp [hk8]
    exact wp_cond_true (by rw [Ze]; exact e19) (wp_skip ⟨rfl, rfl, (hA.put (by decide) _).put (by decide) _, e19⟩)
   ·refine wp_seq (wp_region_lit (Zv rfl (x_eqlI (k := .i64) (m := kind) (n := 8) (by rw [Ze]; exact hA.g18) rfl) (Zv rfl Zi (wpList_nil ?_))))
    have e19 : Act.get ((a.put (some 20) (.bool (kind == 8))).put (some 19) ((a.put (some 20) (.bool (kind == 8))).eval (.tmp 20))) 19 = .bool false := by simp (disch := first | omega | simp only [Zs]; omega) only [Zo, Ze, Zn, Zq]; simp [hk8]
    refine wp_cond_false (by rw [Ze]; exact e19) (wp_region_lit (Zv rfl (x_eqlI (k := .i64) (m := kind) (n := 9) ?_ rfl) (Zv rfl Zi (wpList_nil ⟨rfl, rfl, (((hA.put (by decide) _).put (by decide) _).put (by decide) _).put (by decide) _, ?_⟩))))
    ·simp (disch := first | omega | simp only [Zs]; omega) only [Zo, Ze, Zn, Zq, hA.g18]
    ·simp (disch := first | omega | simp only [Zs]; omega) only [Zo, Ze, Zn, Zq]; simp [show kind = 9 by omega]
  rintro e b w' ⟨rfl, rfl, hB, h19⟩
  have hBN := hB.size
  have hc1 : cs[0 + 1]? = some s1 := by rw [hce]; rfl
  refine wp_cond_true (by rw [Ze]; exact h19) (wp_seq (wp_region_lit (Zv rfl (Za (show fieldOff Tryz.prog 26 1 = some 1 by kernel_rfl) (b := b5) (o0 := 0) (by rw [Ze]; exact hB.g5)) (Zv rfl (Zl (by kernel_rfl) (b := b5) (o := 0 + 1) (v := s1) ?_ (by rw [Zc h5]; exact hc1)) (wpl_call rfl (Zy (by kernel_rfl) rfl) (R := fun e w'' => w4 = w'' /\ ∃ v', e = .returned v' /\ OctI w0 v' (whole t.S)) ?_ ?_)))))
  ·simp (disch := first | omega | simp only [Zs]; omega) only [Zo, Ze, Zn, Zq]
  ·rw [show ∀ a : Act, (#[Operand.tmp 23] : Array Operand).map a.eval = #[Act.get a 23] from fun a => by simp [Ze]]
   simp (disch := first | omega | simp only [Zs]; omega) only [Zo, Ze, Zn, Zq]
   exact whole_c' hS
  rintro e w5 ⟨rfl, v', rfl, ho⟩
  obtain ⟨va, vc, hv, _⟩ := ho.slice
  obtain ⟨on, ho2⟩ := ho.to_oct
  subst hv
  have hus : TreeR w4 (fun k => k < w0.heap.size \/ (b6 < k /\ k < w4.heap.size)) (from' #[.int .i64 0, .slice va (whole t.S).length vc, .bool nz, .slice none 0 0, .slice none 0 0] 0) (fitW (.mk kind fr to nl g d of sub) ver t) := by
   rw [show fitW (.mk kind fr to nl g d of sub) ver t = .octs (whole t.S) nz by rw [hnz]; rcases hk89 with rfl | rfl <;> simp [fitW, fitL, Tr.octs]]
   exact tree_octs rfl (ho2.mod m004 (fun _ _ f => f) (fun k hk => .inl hk)) rfl rfl rfl
  refine ⟨_, rfl, Zv rfl (x_moveV (v := .bool nz) ?_) (Zv rfl (x_build (cells := #[.int .i64 0, .slice va (whole t.S).length vc, .bool nz, .slice none 0 0, .slice none 0 0]) ?_) ?_)⟩
  ·simp (disch := first | omega | simp only [Zs]; omega) only [Zo, Ze, Zn, Zq, hB.g7]
  ·simp (disch := first | omega | simp only [Zs]; omega) only [List.map_toArray, List.map_cons, List.map_nil, Zo, Ze, Zn, Zq]
   kernel_rfl
  have hB' := ((((hB.put (t := 22) (by decide) (.pointer (some ⟨b5, 0 + 1, none⟩))).put (t := 23) (by decide) s1).put (t := 24) (by decide) (.slice va (whole t.S).length vc)).put (t := 25) (by decide) (.bool nz)).put (t := 26) (by decide) (.agg #[.int .i64 0, .slice va (whole t.S).length vc, .bool nz, .slice none 0 0, .slice none 0 0])
  obtain ⟨d1, d2⟩ := hput #[.int .i64 0, .slice va (whole t.S).length vc, .bool nz, .slice none 0 0, .slice none 0 0] _ w4 0 rfl (by simp [Value.oneCell']) (Mod.refl _) hB' hus
  refine wpl_skip rfl (x_storeN (cs := #[.int .i64 0, .slice va (whole t.S).length vc, .bool nz, .slice none 0 0, .slice none 0 0]) (b := b6) (o := 0) (by kernel_rfl) ?_ ?_ (by simp [Value.oneCell']) d2) (wpList_nil (wp_ret ?_))
  ·rw [Ze]; exact hB'.g6
  ·simp (disch := first | omega | simp only [Zs]; omega) only [Zo, Ze, Zn, Zq]
  ·rw [Zo]
   first | exact ⟨rfl, d1⟩ | (simp only [Exit.then, Exit.inBlock]; exact ⟨rfl, d1⟩)
 -- no octets
 refine wp_block (wp_seq (wp_mono (Q := fun e b w' => e = .normal /\ w4 = w' /\ FdA ver nz kind b3 b5 b6 b /\ Act.get b 19 = .bool false) ?_ ?_))
 ·refine wp_seq (wp_region_lit (Zv rfl (x_eqlI (k := .i64) (m := kind) (n := 8) (by rw [Ze]; exact hA.g18) rfl) (Zv rfl Zi (wpList_nil ?_))))
  have e19 : Act.get ((a.put (some 20) (.bool (kind == 8))).put (some 19) ((a.put (some 20) (.bool (kind == 8))).eval (.tmp 20))) 19 = .bool false := by simp (disch := first | omega | simp only [Zs]; omega) only [Zo, Ze, Zn, Zq]; simp; omega
  refine wp_cond_false (by rw [Ze]; exact e19) (wp_region_lit (Zv rfl (x_eqlI (k := .i64) (m := kind) (n := 9) ?_ rfl) (Zv rfl Zi (wpList_nil ⟨rfl, rfl, (((hA.put (by decide) _).put (by decide) _).put (by decide) _).put (by decide) _, ?_⟩))))
  ·simp (disch := first | omega | simp only [Zs]; omega) only [Zo, Ze, Zn, Zq, hA.g18]
  ·simp (disch := first | omega | simp only [Zs]; omega) only [Zo, Ze, Zn, Zq]; simp; omega
 rintro e b w' ⟨rfl, rfl, hB, h19⟩
 have hBN := hB.size
 refine wp_cond_false (by rw [Ze]; exact h19) (wp_seq (wp_region_lit (Zv rfl (x_eqlI (k := .i64) (m := kind) (n := 10) (by rw [Ze]; exact hB.g18) rfl) (Zv rfl Zi (wpList_nil ?_)))))
 refine wp_act (fun b : Act => FdA ver nz kind b3 b5 b6 b /\ Act.get b 27 = .bool (kind == 10)) ⟨(hB.put (by decide) _).put (by decide) _, by simp (disch := first | omega | simp only [Zs]; omega) only [Zo, Ze, Zn, Zq]⟩ ?_
 clear h19 hB hBN b
 rintro b ⟨hB, h27⟩
 have hBN := hB.size
 by_cases hk10 : kind = 10
 ·-- a part
  have hsl : sv.oneCell' = true := by rw [hsv]; rfl
  have hc7 : fc[0 + 7]? = some sv := by rw [hfc]; rfl
  refine wp_cond_true (by rw [Ze, h27]; simp [hk10]) (wp_seq (wp_region_lit (Zv rfl (Za (show fieldOff Tryz.prog 51 7 = some 7 by kernel_rfl) (b := b3) (o0 := 0) (by rw [Ze]; exact hB.g3)) (Zv rfl (Zl (by kernel_rfl) (b := b3) (o := 0 + 7) (v := sv) ?_ (by rw [Zc h3]; exact hc7)) (Zv rfl Zm (Zv rfl (x_loadN (cs := cs.toList) (b := b5) (o := 0) (by rw [Array.length_toList, hcs]; kernel_rfl) ?_ (fun j v hv => by rw [Zc h5, Nat.zero_add]; simpa using hv)) (wpl_call rfl (Zy (by kernel_rfl) rfl) (R := fun e w' => ∃ v, e = .returned v /\ Mod none' w4 w' /\ TreeV w' (fun k => k < w0.heap.size \/ w4.heap.size <= k) v (.mk 0 [] false (fitsW sub 0 ver t) (cutW (unkW t.U)))) ?_ ?_)))))))
  ·simp (disch := first | omega | simp only [Zs]; omega) only [Zo, Ze, Zn, Zq]
  ·simp (disch := first | omega | simp only [Zs]; omega) only [Zo, Ze, Zn, Zq, hB.g5]
  ·rw [show ∀ a : Act, (#[Operand.tmp 30, .tmp 31, .tmp 32] : Array Operand).map a.eval = #[Act.get a 30, Act.get a 31, Act.get a 32] from fun a => by simp [Ze]]
   simp (disch := first | omega | simp only [Zs]; omega) only [Zo, Ze, Zn, Zq, hB.g1]
   exact h10 hk10 w4 m004
  rintro e w5 ⟨v5, rfl, m5, us, rfl, hus5, husall, hTR5⟩
  refine ⟨_, rfl, Zv rfl (x_alloc zeroTree) ?_⟩
  have n1 := Zh w5 (.cells zT 26)
  have n2 : Mod none' w5 (w5.alloc (.cells zT 26)) := (Mod.refl w5).alloc _
  obtain ⟨b8, hb8⟩ : ∃ b, b = w5.heap.size := ⟨_, rfl⟩
  rw [<- hb8] at n1 ⊢
  change wpList _ _ _ _ _ (w5.alloc (.cells zT 26))
  generalize w5.alloc (.cells zT 26) = w6 at *
  refine wpl_skip rfl (x_storeN (cs := us) (b := b8) (o := 0) (by rw [hus5]; kernel_rfl) ?_ ?_ husall ?_) (wpList_nil ?_)
  ·simp (disch := first | omega | simp only [Zs]; omega) only [Zo, Ze, Zn, Zq]
  ·simp (disch := first | omega | simp only [Zs]; omega) only [Zo, Ze, Zn, Zq]
  ·intro j hj
   rw [Zc n1, Zz n1, Nat.zero_add, Array.getElem?_eq_getElem (by show j < 5; omega)]
   exact ⟨rfl, rfl⟩
  have k8 := put_tree (cs := us) n1 (by rw [hus5]; rfl)
  have p8 := mod_setCells b8 w6 0 us.toList
  have hs5 := m5.size
  have hm57 : Mod none' w5 (w6.setCells b8 0 us.toList) := n2.trans' p8 (fun _ _ f => f) (fun i hi e => by have e' : i = b8 := e; omega)
  generalize w6.setCells b8 0 us.toList = w7 at *
  refine wp_act (fun b : Act => FdA ver nz kind b3 b5 b6 b /\ Act.get b 8 = .pointer (some ⟨b8, 0, none⟩)) ⟨by rw [Zo]; exact (((((hB.put (by decide) _).put (by decide) _).put (by decide) _).put (by decide) _).put (by decide) _).put (by decide) _, by simp (disch := first | omega | simp only [Zs]; omega) only [Zo, Ze, Zn, Zq]⟩ ?_
  clear h27 hB hBN b
  rintro b ⟨hB, h8⟩
  have hBN := hB.size
  refine wp_seq (wp_region_lit (Zv rfl (x_moveV hB.g7) (Zv rfl (Za (show fieldOff Tryz.prog 26 2 = some 2 by kernel_rfl) (b := b8) (o0 := 0) ?_) (wpl_skip rfl (x_store1 (by kernel_rfl) (b := b8) (o := 0 + 2) (v := .bool nz) (u := us[2]'(by omega)) ?_ ?_ rfl (by rw [Zc k8, Nat.zero_add, Array.getElem?_eq_getElem (by omega)]) (Zz k8)) (wpList_nil ?_)))))
  ·rw [Ze, Zn (by decide)]; exact h8
  ·simp (disch := first | omega | simp only [Zs]; omega) only [Zo, Ze, Zn, Zq]
  ·simp (disch := first | omega | simp only [Zs]; omega) only [Zo, Ze, Zn, Zq]
  have k9 := heap_setCell_same (o := 0 + 2) k8 (.bool nz)
  have p9 : Mod (only b8) w7 (w7.setCell ⟨b8, 0 + 2, none⟩ (.bool nz)) := (Mod.refl w7).put _ _
  have hs7 := hm57.size
  have hm58 : Mod none' w5 (w7.setCell ⟨b8, 0 + 2, none⟩ (.bool nz)) := hm57.trans' p9 (fun _ _ f => f) (fun i hi e => by have e' : i = b8 := e; omega)
  generalize w7.setCell ⟨b8, 0 + 2, none⟩ (.bool nz) = w8 at *
  obtain ⟨u2, hu2⟩ : ∃ u2, u2 = us.setIfInBounds (0 + 2) (.bool nz) := ⟨_, rfl⟩
  rw [<- hu2] at k9
  have hu25 : u2.size = 5 := by rw [hu2]; simpa using hus5
  have hu2all : u2.all (·.oneCell') = true := by
   rw [Array.all_eq_true] at husall ⊢
   intro i hi
   have hi5 : i < us.size := by omega
   by_cases h2 : i = 0 + 2
   ·subst h2; simp [hu2, Value.oneCell']
   ·have : u2[i] = us[i] := by
     have e : u2[i]? = us[i]? := by rw [hu2, Array.getElem?_setIfInBounds_ne (by omega)]
     rw [Array.getElem?_eq_getElem hi, Array.getElem?_eq_getElem hi5] at e
     exact Option.some.inj e
    rw [this]; exact husall i hi5
  refine wp_act (fun b : Act => FdA ver nz kind b3 b5 b6 b /\ Act.get b 8 = .pointer (some ⟨b8, 0, none⟩)) ⟨by rw [Zo]; exact (hB.put (by decide) _).put (by decide) _, by simp (disch := first | omega | simp only [Zs]; omega) only [Zo, Ze, Zn, Zq, h8]⟩ ?_
  clear hB hBN h8 b
  rintro b ⟨hB, h8⟩
  have hBN := hB.size
  have hB' := hB.put (t := 36) (by decide) (.agg u2)
  obtain ⟨d1, d2⟩ := hput u2 _ w8 0 hu25 hu2all (m5.trans hm58) hB' (by
   rw [show fitW (.mk kind fr to nl g d of sub) ver t = .mk 0 [] nz (fitsW sub 0 ver t) (cutW (unkW t.U)) by rw [hnz, hk10]; simp [fitW]]
   refine TreeR.setZ (b := nz) (c := from' us 0) (z := false) ?_ (get_from' (by rw [hu2, Array.getElem?_setIfInBounds, if_pos rfl, if_pos (by omega)])) (fun j hj hj5 => ?_)
   ·have hs8 := hm58.size
    exact hTR5.lt.mod hm58 (fun _ _ f => f) (fun k hk => by
     rcases hk.1 with h | h
     ·exact .inl h
     ·exact .inr ⟨by omega, by omega⟩)
   ·simp only [from', Array.getD_eq_getD_getElem?]
    rw [hu2, Array.getElem?_setIfInBounds_ne (by omega)])
  refine wp_seq (wp_region_lit (Zv rfl (x_loadN (cs := u2.toList) (b := b8) (o := 0) (by rw [Array.length_toList, hu25]; kernel_rfl) (by rw [Ze]; exact h8) (fun j v hv => by rw [Zc k9, Nat.zero_add]; simpa using hv)) (wpl_skip rfl (x_storeN (cs := u2) (b := b6) (o := 0) (by rw [hu25]; kernel_rfl) ?_ ?_ hu2all d2) (wpList_nil (wp_ret ?_)))))
  ·rw [Ze]; exact hB'.g6
  ·simp (disch := first | omega | simp only [Zs]; omega) only [Zo, Ze, Zn, Zq]
  ·rw [Zo]
   first | exact ⟨rfl, d1⟩ | (simp only [Exit.then, Exit.inBlock]; exact ⟨rfl, d1⟩)
 refine wp_cond_false (by rw [Ze, h27]; simp [hk10]) (wp_seq (wp_region_lit (Zv rfl (x_eqlI (k := .i64) (m := kind) (n := 11) (by rw [Ze]; exact hB.g18) rfl) (Zv rfl Zi (wpList_nil ?_)))))
 refine wp_act (fun b : Act => FdA ver nz kind b3 b5 b6 b /\ Act.get b 37 = .bool (kind == 11)) ⟨(hB.put (by decide) _).put (by decide) _, by simp (disch := first | omega | simp only [Zs]; omega) only [Zo, Ze, Zn, Zq]⟩ ?_
 clear h27 hB hBN b
 rintro b ⟨hB, h37⟩
 have hBN := hB.size
 by_cases hk11 : kind = 11
 ·-- a list
  obtain ⟨hok, hfit⟩ := h11 hk11
  have hgeq : decide (0 <= g) = false := by simp; omega
  have hc4 : fc[0 + 4]? = some (.int .i64 g) := by rw [hfc]; rfl
  have hc6 : fc[0 + 6]? = some (.int .i64 of) := by rw [hfc]; rfl
  refine wp_cond_true (by rw [Ze, h37]; simp [hk11]) (wp_seq (wp_mono (Q := fun e b w' => e = .normal /\ FdA ver nz kind b3 b5 b6 b /\ Act.get b 9 = .pointer (some ⟨w4.heap.size, 0, none⟩) /\ w'.heap[w4.heap.size]? = some (.cells #[.int .i64 0, .slice none 0 0, .bool nz, .slice none 0 0, .slice none 0 0] 26 (0, 0)) /\ Mod none' w4 w') ?_ ?_))
  ·exact fitted_null hgeq hB h3 hc4 (by kernel_rfl)
  clear h37 hB hBN b
  rintro e b w5 ⟨rfl, hB, h9, k9, m5⟩
  have hBN := hB.size
  obtain ⟨b9, hb9⟩ : ∃ b, b = w4.heap.size := ⟨_, rfl⟩
  rw [<- hb9] at h9 k9
  have hb9w := lt_of_block k9
  -- the field of its things
  have h35 := m5.some h3 (fun f => f)
  refine wp_seq (wp_region_lit (Zv rfl (x_loadN (cs := fc.toList) (b := b3) (o := 0) (by rw [Array.length_toList, hfc8]; kernel_rfl) (by rw [Ze]; exact hB.g3) (fun j v hv => by rw [Zc h35, Nat.zero_add]; simpa using hv)) (Zv rfl (x_alloc zeroField) ?_)))
  have n1 := Zh w5 (.cells (Value.agg #[.int .i64 0, .int .i64 0, .int .i64 0, .int .i64 0, .int .i64 0, .int .i64 0, .int .i64 0, .slice none 0 0]).cells 51)
  have n2 : Mod none' w5 (w5.alloc (.cells (Value.agg #[.int .i64 0, .int .i64 0, .int .i64 0, .int .i64 0, .int .i64 0, .int .i64 0, .int .i64 0, .slice none 0 0]).cells 51)) := (Mod.refl w5).alloc _
  generalize w5.alloc (.cells (Value.agg #[.int .i64 0, .int .i64 0, .int .i64 0, .int .i64 0, .int .i64 0, .int .i64 0, .int .i64 0, .slice none 0 0]).cells 51) = w6 at *
  obtain ⟨b10, hb10⟩ : ∃ b, b = w5.heap.size := ⟨_, rfl⟩
  rw [<- hb10] at n1 ⊢
  have hfone : fc.all (·.oneCell') = true := by rw [hfc, hsv]; simp [FD.cells, Value.oneCell']
  refine wpl_skip rfl (x_storeN (cs := fc) (b := b10) (o := 0) (by rw [hfc8]; kernel_rfl) ?_ ?_ hfone ?_) (wpList_nil ?_)
  ·simp (disch := first | omega | simp only [Zs]; omega) only [Zo, Ze, Zn, Zq]
  ·simp (disch := first | omega | simp only [Zs]; omega) only [Zo, Ze, Zn, Zq]
  ·intro j hj
   rw [Zc n1, Zz n1, Nat.zero_add, Array.getElem?_eq_getElem (by show j < 8; omega)]
   refine ⟨rfl, rfl⟩
  have k10 := put_tree (cs := fc) n1 (by rw [hfc8]; rfl)
  have p10 := mod_setCells b10 w6 0 fc.toList
  have m57 : Mod none' w5 (w6.setCells b10 0 fc.toList) := n2.trans' p10 (fun _ _ f => f) (fun i hi e => by have e' : i = b10 := e; omega)
  generalize w6.setCells b10 0 fc.toList = w7 at *
  refine wp_act (fun b : Act => FdA ver nz kind b3 b5 b6 b /\ Act.get b 9 = .pointer (some ⟨b9, 0, none⟩) /\ Act.get b 10 = .pointer (some ⟨b10, 0, none⟩)) ⟨by rw [Zo]; exact (hB.put (by decide) _).put (by decide) _, by simp (disch := first | omega | simp only [Zs]; omega) only [Zo, Ze, Zn, Zq, h9], by simp (disch := first | omega | simp only [Zs]; omega) only [Zo, Ze, Zn, Zq]⟩ ?_
  clear h9 hB hBN b
  rintro b ⟨hB, h9, h10'⟩
  have hBN := hB.size
  have h37 := m57.some h35 (fun f => f)
  refine wp_seq (wp_region_lit (Zv rfl (Za (show fieldOff Tryz.prog 51 6 = some 6 by kernel_rfl) (b := b3) (o0 := 0) (by rw [Ze]; exact hB.g3)) (Zv rfl (Zl (by kernel_rfl) (b := b3) (o := 0 + 6) (v := .int .i64 of) ?_ (by rw [Zc h37]; exact hc6))
   (Zv rfl (Za (show fieldOff Tryz.prog 51 0 = some 0 by kernel_rfl) (b := b10) (o0 := 0) ?_) (wpl_skip rfl (x_store1 (by kernel_rfl) (b := b10) (o := 0 + 0) (v := .int .i64 of) (u := .int .i64 kind) ?_ ?_ rfl (by rw [Zc k10]; exact hk0) (Zz k10)) ?_)))))
  ·simp (disch := first | omega | simp only [Zs]; omega) only [Zo, Ze, Zn, Zq]
  ·simp (disch := first | omega | simp only [Zs]; omega) only [Zo, Ze, Zn, Zq, h10']
  ·simp (disch := first | omega | simp only [Zs]; omega) only [Zo, Ze, Zn, Zq]
  ·simp (disch := first | omega | simp only [Zs]; omega) only [Zo, Ze, Zn, Zq]
  have q1 := heap_setCell_same (o := 0 + 0) k10 (.int .i64 of)
  have o1 : Mod (only b10) w7 (w7.setCell ⟨b10, 0 + 0, none⟩ (.int .i64 of)) := (Mod.refl w7).put _ _
  generalize w7.setCell ⟨b10, 0 + 0, none⟩ (.int .i64 of) = w8 at *
  refine Zv rfl (Za (show fieldOff Tryz.prog 51 3 = some 3 by kernel_rfl) (b := b10) (o0 := 0) ?_) (wpl_skip rfl (x_store1 (by kernel_rfl) (b := b10) (o := 0 + 3) (v := .int .i64 (-1)) (u := .int .i64 nl) ?_ rfl rfl (by rw [Zc q1, hfc]; rfl) (Zz q1)) ?_)
  ·simp (disch := first | omega | simp only [Zs]; omega) only [Zo, Ze, Zn, Zq, h10']
  ·simp (disch := first | omega | simp only [Zs]; omega) only [Zo, Ze, Zn, Zq]
  have q2 := heap_setCell_same (o := 0 + 3) q1 (.int .i64 (-1))
  have o2 : Mod (only b10) w8 (w8.setCell ⟨b10, 0 + 3, none⟩ (.int .i64 (-1))) := (Mod.refl w8).put _ _
  generalize w8.setCell ⟨b10, 0 + 3, none⟩ (.int .i64 (-1)) = w9 at *
  refine Zv rfl (Za (show fieldOff Tryz.prog 51 4 = some 4 by kernel_rfl) (b := b10) (o0 := 0) ?_) (wpl_skip rfl (x_store1 (by kernel_rfl) (b := b10) (o := 0 + 4) (v := .int .i64 (-1)) (u := .int .i64 g) ?_ rfl rfl (by rw [Zc q2, hfc]; rfl) (Zz q2)) (wpList_nil ?_))
  ·simp (disch := first | omega | simp only [Zs]; omega) only [Zo, Ze, Zn, Zq, h10']
  ·simp (disch := first | omega | simp only [Zs]; omega) only [Zo, Ze, Zn, Zq]
  have q3 := heap_setCell_same (o := 0 + 4) q2 (.int .i64 (-1))
  have o3 : Mod (only b10) w9 (w9.setCell ⟨b10, 0 + 4, none⟩ (.int .i64 (-1))) := (Mod.refl w9).put _ _
  have hs5 := m5.size
  have hs57 := m57.size
  have m5a : Mod none' w5 (w9.setCell ⟨b10, 0 + 4, none⟩ (.int .i64 (-1))) := m57.trans' ((o1.trans o2).trans o3) (fun _ _ f => f) (fun i hi e => by have e' : i = b10 := e; omega)
  generalize w9.setCell ⟨b10, 0 + 4, none⟩ (.int .i64 (-1)) = wa at *
  replace q3 : wa.heap[b10]? = some (.cells ((FD.mk of fr to (-1) (-1) d of sub).cells sv) 51 (0, 0)) := by rw [q3, hfc]; rfl
  refine wp_act (fun b : Act => FdA ver nz kind b3 b5 b6 b /\ Act.get b 9 = .pointer (some ⟨b9, 0, none⟩) /\ Act.get b 10 = .pointer (some ⟨b10, 0, none⟩)) ⟨by simp only [Zo]; exact ((((hB.put (by decide) _).put (by decide) _).put (by decide) _).put (by decide) _).put (by decide) _, by simp (disch := first | omega | simp only [Zs]; omega) only [Zo, Ze, Zn, Zq, h9], by simp (disch := first | omega | simp only [Zs]; omega) only [Zo, Ze, Zn, Zq, h10']⟩ ?_
  clear h9 hB hBN h10' b
  rintro b ⟨hB, h9, h10'⟩
  have hBN := hB.size
  have m4a := m5.trans m5a
  have m0a := m004.trans m4a
  have ka : wa.heap[b9]? = some (.cells #[.int .i64 0, .slice none 0 0, .bool nz, .slice none 0 0, .slice none 0 0] 26 (0, 0)) := m5a.some k9 (fun f => f)
  have h5a := m4a.some h5 (fun f => f)
  have hb9l := lt_of_block ka
  have hb10l := lt_of_block q3
  have hc3 : cs[0 + 3]? = some lv1 := by rw [hce]; rfl
  have hlone : lv1.oneCell' = true := by obtain ⟨xa, xc, e⟩ := hL.slice; rw [e]; rfl
  obtain ⟨Ls, hLs'⟩ : ∃ l, l = t.L.take 32767 := ⟨_, rfl⟩
  have hLl : Ls.length = min t.L.length 32767 := by rw [hLs', List.length_take, Nat.min_comm]
  obtain ⟨E, hEE⟩ : ∃ E : Tr -> Tr, E = fitW (.mk of fr to (-1) (-1) d of sub) ver := ⟨_, rfl⟩
  obtain ⟨B, hBe⟩ : ∃ b, b = wa.heap.size := ⟨_, rfl⟩
  refine wp_seq (wp_mono (Q := fun e b w' => e = .normal /\ FdA ver nz kind b3 b5 b6 b /\ Act.get b 9 = .pointer (some ⟨b9, 0, none⟩) /\ Mod (TbM b9 B) wa w' /\ ∃ C, TbS TreeR 26 5 3 B (fun k => k < w0.heap.size) b9 C w' (Ls.map E) /\ C[0]? = some (.int .i64 0) /\ C[1]? = some (.slice none 0 0) /\ C[2]? = some (.bool nz) /\ C[4]? = some (.slice none 0 0)) ?_ ?_)
  ·refine wp_seq (wp_region_lit (Zv rfl (Za (show fieldOff Tryz.prog 26 3 = some 3 by kernel_rfl) (b := b5) (o0 := 0) (by rw [Ze]; exact hB.g5)) (Zv rfl (Zl (by kernel_rfl) (b := b5) (o := 0 + 3) (v := lv1) ?_ (by rw [Zc h5a]; exact hc3)) (wpl_call rfl (Zy (by kernel_rfl) rfl) (R := fun e w' => wa = w' /\ ∃ v', e = .returned v' /\ ElemsI w0 v' Ls.length 5 f1) ?_ ?_))))
   ·simp (disch := first | omega | simp only [Zs]; omega) only [Zo, Ze, Zn, Zq]
   ·rw [show ∀ a : Act, (#[Operand.tmp 59] : Array Operand).map a.eval = #[Act.get a 59] from fun a => by simp [Ze]]
    simp (disch := first | omega | simp only [Zs]; omega) only [Zo, Ze, Zn, Zq]
    rw [hLl]
    exact things_c hL
   rintro e w' ⟨rfl, rv, rfl, hEl⟩
   obtain ⟨ra, rc, hrvs⟩ := hEl.slice
   refine ⟨_, rfl, Zv rfl (x_len (by kernel_rfl) rfl (ao := ra) (cap := rc) (n := Ls.length) ?_) (Zv rfl Zm (wpList_nil ?_))⟩
   ·simp (disch := first | omega | simp only [Zs]; omega) only [Zo, Ze, Zn, Zq, hrvs]
   refine wp_act (fun b : Act => FdA ver nz kind b3 b5 b6 b /\ Act.get b 9 = .pointer (some ⟨b9, 0, none⟩) /\ Act.get b 10 = .pointer (some ⟨b10, 0, none⟩) /\ Act.get b 60 = rv /\ Act.get b 61 = .int .i64 (Ls.length : Nat) /\ Act.get b 62 = .int .i64 (0 : Nat)) ⟨((((hB.put (by decide) _).put (by decide) _).put (by decide) _).put (by decide) _).put (by decide) _, by simp (disch := first | omega | simp only [Zs]; omega) only [Zo, Ze, Zn, Zq, h9], by simp (disch := first | omega | simp only [Zs]; omega) only [Zo, Ze, Zn, Zq, h10'], by simp (disch := first | omega | simp only [Zs]; omega) only [Zo, Ze, Zn, Zq], by simp (disch := first | omega | simp only [Zs]; omega) only [Zo, Ze, Zn, Zq], by simp (disch := first | omega | simp only [Zs]; omega) only [Zo, Ze, Zn, Zq]; rfl⟩ ?_
   clear h9 hB hBN h10' b
   rintro b ⟨hB, h9, h10', s60, s61, s62⟩
   refine wp_for2 (fun m b w' => ∃ q, q + m = Ls.length /\ FdA ver nz kind b3 b5 b6 b /\ Act.get b 9 = .pointer (some ⟨b9, 0, none⟩) /\ Act.get b 10 = .pointer (some ⟨b10, 0, none⟩) /\ Act.get b 60 = rv /\ Act.get b 61 = .int .i64 (Ls.length : Nat) /\ Act.get b 62 = .int .i64 (q : Nat) /\ Mod (TbM b9 B) wa w' /\ ∃ C, TbS TreeR 26 5 3 B (fun k => k < w0.heap.size) b9 C w' ((Ls.take q).map E) /\ C[0]? = some (.int .i64 0) /\ C[1]? = some (.slice none 0 0) /\ C[2]? = some (.bool nz) /\ C[4]? = some (.slice none 0 0))
    (fun m b w' => ∃ q, q + m + 1 = Ls.length /\ FdA ver nz kind b3 b5 b6 b /\ Act.get b 9 = .pointer (some ⟨b9, 0, none⟩) /\ Act.get b 10 = .pointer (some ⟨b10, 0, none⟩) /\ Act.get b 60 = rv /\ Act.get b 61 = .int .i64 (Ls.length : Nat) /\ Act.get b 62 = .int .i64 (q : Nat) /\ Mod (TbM b9 B) wa w' /\ ∃ C, TbS TreeR 26 5 3 B (fun k => k < w0.heap.size) b9 C w' ((Ls.take q).map E) /\ C[0]? = some (.int .i64 0) /\ C[1]? = some (.slice none 0 0) /\ C[2]? = some (.bool nz) /\ C[4]? = some (.slice none 0 0))
    (fun m b w' => ∃ q, q + m + 1 = Ls.length /\ FdA ver nz kind b3 b5 b6 b /\ Act.get b 9 = .pointer (some ⟨b9, 0, none⟩) /\ Act.get b 10 = .pointer (some ⟨b10, 0, none⟩) /\ Act.get b 60 = rv /\ Act.get b 61 = .int .i64 (Ls.length : Nat) /\ Act.get b 62 = .int .i64 (q : Nat) /\ Mod (TbM b9 B) wa w' /\ ∃ C, TbS TreeR 26 5 3 B (fun k => k < w0.heap.size) b9 C w' ((Ls.take (q + 1)).map E) /\ C[0]? = some (.int .i64 0) /\ C[1]? = some (.slice none 0 0) /\ C[2]? = some (.bool nz) /\ C[4]? = some (.slice none 0 0)) Ls.length
    ⟨0, by omega, hB, h9, h10', s60, s61, s62, Mod.refl _, _, ⟨⟨_, ka⟩, rfl, ⟨_, [], rfl, by simp only [List.take_zero, List.map_nil]; exact RowG.nil _⟩, by omega, by omega, fun k hk => by have := m004.size; omega, by decide⟩, rfl, rfl, rfl, rfl⟩ ?_ ?_ ?_
   ·rintro m a2 w7 ⟨q, hq, hA2, g9, g10, g60, g61, g62, hm7, C, hTb, hC⟩
    have hN2 := hA2.size
    refine wp_region_lit (Zv rfl (x_lss (k := .i64) (m := (q : Nat)) (n := (Ls.length : Nat)) (by rw [Ze, g62]) (by rw [Ze, g61])) (wpList_nil ⟨rfl, ?_⟩))
    rw [Zq (by omega)]
    cases m with
    | zero =>
     right
     have hqe : q = Ls.length := by omega
     rw [hqe, List.take_length] at hTb
     exact ⟨by congr 1; simp; omega, rfl, hA2.put (by decide) _, by simp (disch := first | omega | simp only [Zs]; omega) only [Zo, Ze, Zn, Zq, g9], hm7, C, hTb, hC⟩
    | succ m =>
     left
     exact ⟨m, rfl, by congr 1; simp; omega, q, by omega, hA2.put (by decide) _, by simp (disch := first | omega | simp only [Zs]; omega) only [Zo, Ze, Zn, Zq, g9], by simp (disch := first | omega | simp only [Zs]; omega) only [Zo, Ze, Zn, Zq, g10], by simp (disch := first | omega | simp only [Zs]; omega) only [Zo, Ze, Zn, Zq, g60], by simp (disch := first | omega | simp only [Zs]; omega) only [Zo, Ze, Zn, Zq, g61], by simp (disch := first | omega | simp only [Zs]; omega) only [Zo, Ze, Zn, Zq, g62], hm7, C, hTb, hC⟩
   ·rintro m a2 w7 ⟨q, hq, hA2, g9, g10, g60, g61, g62, hm7, C, hTb, hC0, hC1, hC2, hC4'⟩
    have hN2 := hA2.size
    have hql : q < Ls.length := by omega
    rcases hEl with ⟨h0, _⟩ | ⟨kb, off, cap', Ct, tC, fr', c1, c2, c3, c4, c5⟩
    ·omega
    have hkl := lt_of_block c4
    have hs04 := m004.size
    have c4' : w7.heap[kb]? = some (.cells Ct tC fr') := hm7.some (m0a.some c4 (fun f => f)) (fun e => by rcases e with e | e <;> omega)
    have hqL : q < t.L.length := by omega
    have hTq := hLs q hqL
    have hlq : Ls[q] = t.L[q] := by simp only [hLs', List.getElem_take]
    have honeq := hTq.one
    obtain ⟨cx, hcx⟩ : ∃ cx : Array Value, cx = #[f1 q 0, f1 q 1, f1 q 2, f1 q 3, f1 q 4] := ⟨_, rfl⟩
    have hcx5 : cx.size = 5 := by rw [hcx]; rfl
    have hcxj : ∀ j, j < 5 -> cx[j]? = some (f1 q j) := fun j hj => by
     rw [hcx]
     rcases (by omega : j = 0 \/ j = 1 \/ j = 2 \/ j = 3 \/ j = 4) with rfl | rfl | rfl | rfl | rfl <;> rfl
    have hcxT : TreeI w0 (from' cx 0) t.L[q] := hTq.congr (fun j hj => fromE hcxj j hj)
    have hcxone : cx.all (·.oneCell') = true := by
     rw [Array.all_eq_true]
     intro i hi
     have h1 := hcxj i (by omega)
     rw [Array.getElem?_eq_getElem hi] at h1
     rw [Option.some.inj h1]
     exact honeq i (by omega)
    refine wp_seq (wp_region_lit (Zv rfl (Zx (sz := 5) (i := q) (b := kb) (o := off) (n := Ls.length) (cap := cap') (k := .i64) (by kernel_rfl) ?_ ?_ hql) (Zv rfl (x_loadN (cs := cx.toList) (b := kb) (o := off + q * 5) (by rw [Array.length_toList, hcx5]; kernel_rfl) ?_ (fun j v hv => by
     rw [Zc c4']
     have hj : j < 5 := by
      have := (List.getElem?_eq_some_iff.1 hv).1
      rw [Array.length_toList] at this; omega
     rw [c5 q hql j hj, <- hv, Array.getElem?_toList, hcxj j hj])) (Zv rfl (x_alloc zeroTree) ?_))))
    ·simp (disch := first | omega | simp only [Zs]; omega) only [Zo, Ze, Zn, Zq, g60, c1]
    ·simp (disch := first | omega | simp only [Zs]; omega) only [Zo, Ze, Zn, Zq, g62]
    ·simp (disch := first | omega | simp only [Zs]; omega) only [Zo, Ze, Zn, Zq]
    have r1' := Zh w7 (.cells zT 26)
    have n7 : Mod none' w7 (w7.alloc (.cells zT 26)) := (Mod.refl w7).alloc _
    change wpList _ _ _ _ _ (w7.alloc (.cells zT 26))
    obtain ⟨xb, hxb⟩ : ∃ b, b = w7.heap.size := ⟨_, rfl⟩
    rw [<- hxb] at r1' ⊢
    generalize w7.alloc (.cells zT 26) = w8 at *
    refine wpl_skip rfl (x_storeN (cs := cx) (b := xb) (o := 0) (by rw [hcx5]; kernel_rfl) ?_ ?_ hcxone ?_) (wpList_nil ?_)
    ·simp (disch := first | omega | simp only [Zs]; omega) only [Zo, Ze, Zn, Zq]
    ·simp (disch := first | omega | simp only [Zs]; omega) only [Zo, Ze, Zn, Zq]
    ·intro j hj
     rw [Zc r1', Zz r1', Nat.zero_add, Array.getElem?_eq_getElem (by show j < 5; omega)]
     exact ⟨rfl, rfl⟩
    have k2 := put_tree (cs := cx) r1' (by rw [hcx5]; rfl)
    have m8 := mod_setCells xb w8 0 cx.toList
    have m79 : Mod none' w7 (w8.setCells xb 0 cx.toList) := n7.trans' m8 (fun _ _ f => f) (fun j hj e => by have e' : j = xb := e; omega)
    generalize w8.setCells xb 0 cx.toList = w9 at *
    refine wp_act (fun b : Act => FdA ver nz kind b3 b5 b6 b /\ Act.get b 12 = .pointer (some ⟨xb, 0, none⟩) /\ Act.get b 9 = .pointer (some ⟨b9, 0, none⟩) /\ Act.get b 10 = .pointer (some ⟨b10, 0, none⟩) /\ Act.get b 60 = rv /\ Act.get b 61 = .int .i64 (Ls.length : Nat) /\ Act.get b 62 = .int .i64 (q : Nat)) ⟨by rw [Zo]; exact ((hA2.put (by decide) _).put (by decide) _).put (by decide) _, by simp (disch := first | omega | simp only [Zs]; omega) only [Zo, Ze, Zn, Zq], by simp (disch := first | omega | simp only [Zs]; omega) only [Zo, Ze, Zn, Zq, g9], by simp (disch := first | omega | simp only [Zs]; omega) only [Zo, Ze, Zn, Zq, g10], by simp (disch := first | omega | simp only [Zs]; omega) only [Zo, Ze, Zn, Zq, g60], by simp (disch := first | omega | simp only [Zs]; omega) only [Zo, Ze, Zn, Zq, g61], by simp (disch := first | omega | simp only [Zs]; omega) only [Zo, Ze, Zn, Zq, g62]⟩ ?_
    rintro b ⟨hAb, d12, d9, d10, d60, d61, d62⟩
    have m07 : Mod none' w0 w7 := m0a.trans' hm7 (fun _ _ f => f) (fun i hi e => by rcases e with e | e <;> omega)
    have q37 : w9.heap[b10]? = some (.cells ((FD.mk of fr to (-1) (-1) d of sub).cells sv) 51 (0, 0)) := m79.some (hm7.some q3 (fun e => by rcases e with e | e <;> omega)) (fun f => f)
    refine wp_mono (fitted_add (ts6 := #[]) (w0 := w0) (blk := b9) (B := B) (b10 := b10) (b12 := xb) (f := .mk of fr to (-1) (-1) d of sub) (sv := sv) (ver := ver) (cx := cx) (ti := t.L[q]) (y := E t.L[q]) hAb.size d9 (hTb.new treeR_ok m79) (m07.trans m79) (by simp; omega) hAb.g1 d10 d12 q37 k2 (by omega) (fun k' lv hlv hk' => by
     obtain ⟨lv2, lrow2, e1, e2⟩ := hTb.row
     rw [hlv] at e1
     have := Option.some.inj e1
     rw [<- this] at e2
     have := e2.own.lt k' hk'
     omega) hcx5 hcxT (fun W cs' hW hc5 hTW => by rw [hEE]; exact hok w0 W sv cs' _ ver hW hsub hc5 hTW)) ?_
    rintro e c w10 ⟨rfl, hsb, hm10, v', hTb'⟩
    refine ⟨rfl, q, hq, hAb.same hsb (fun t ht => ?_), (hsb.get 9 (by decide)).trans d9, (hsb.get 10 (by decide)).trans d10, (hsb.get 60 (by decide)).trans d60, (hsb.get 61 (by decide)).trans d61, (hsb.get 62 (by decide)).trans d62, (hm7.trans (m79.mono fun _ _ f => f.elim)).trans hm10, C.setIfInBounds (0 + 3) v', ?_, ?_, ?_, ?_, ?_⟩
    ·simp only [List.mem_cons, List.not_mem_nil, or_false] at ht; omega
    ·rw [List.take_succ_eq_append_getElem hql, List.map_append, hlq]; exact hTb'
    ·rw [Array.getElem?_setIfInBounds_ne (by decide)]; exact hC0
    ·rw [Array.getElem?_setIfInBounds_ne (by decide)]; exact hC1
    ·rw [Array.getElem?_setIfInBounds_ne (by decide)]; exact hC2
    ·rw [Array.getElem?_setIfInBounds_ne (by decide)]; exact hC4'
   ·rintro m a2 w7 ⟨q, hq, hA2, g9, g10, g60, g61, g62, hm7, C, hTb, hC⟩
    have hN2 := hA2.size
    refine wp_region_lit (Zv rfl (x_add (k := .i64) (m := (q : Nat)) (n := 1) (by rw [Ze, g62]) rfl) (Zv rfl Zm (wpList_nil ⟨rfl, q + 1, by omega, (hA2.put (by decide) _).put (by decide) _, by simp (disch := first | omega | simp only [Zs]; omega) only [Zo, Ze, Zn, Zq, g9], by simp (disch := first | omega | simp only [Zs]; omega) only [Zo, Ze, Zn, Zq, g10], by simp (disch := first | omega | simp only [Zs]; omega) only [Zo, Ze, Zn, Zq, g60], by simp (disch := first | omega | simp only [Zs]; omega) only [Zo, Ze, Zn, Zq, g61], ?_, hm7, C, hTb, hC⟩)))
    simp (disch := first | omega | simp only [Zs]; omega) only [Zo, Ze, Zn, Zq]
    congr 1
    rw [IntKind.wrap_i64]; omega
  clear h9 hB hBN h10' b
  rintro e b w6 ⟨rfl, hB, h9, hm6, C, hTb, hC0, hC1, hC2, hC4'⟩
  have hBN := hB.size
  obtain ⟨T7, hb9h⟩ := hTb.heap
  obtain ⟨lv, lrow, hC3, hG⟩ := hTb.row
  obtain ⟨l1, l2, l3, l4⟩ := hTb.lo
  have hCs := hTb.size
  have hall : C.all (·.oneCell') = true := by
   obtain ⟨la, lc, hl⟩ := owns_slice hG.own
   rw [Array.all_eq_true]
   intro i hi
   have h : ∀ v, C[i]? = some v -> v.oneCell' = true -> C[i].oneCell' = true := fun v h1 h2 => by
    rw [Array.getElem?_eq_getElem hi] at h1
    rw [Option.some.inj h1]; exact h2
   rcases (by omega : i = 0 \/ i = 1 \/ i = 2 \/ i = 3 \/ i = 4) with rfl | rfl | rfl | rfl | rfl
   ·exact h _ hC0 rfl
   ·exact h _ hC1 rfl
   ·exact h _ hC2 rfl
   ·exact h _ hC3 (by rw [hl]; rfl)
   ·exact h _ hC4' rfl
  have hs4a := m4a.size
  have m46 : Mod none' w4 w6 := m4a.trans' hm6 (fun _ _ f => f) (fun i hi e => by rcases e with e | e <;> omega)
  have hB' := hB.put (t := 76) (by decide) (.agg C)
  obtain ⟨d1, d2⟩ := hput C _ w6 0 hCs hall m46 hB' (by
   rw [show fitW (.mk kind fr to nl g d of sub) ver t = .mk 0 [] nz (Ls.map E) [] by
    rw [hnz, hk11, hLs', hEE]
    simp only [fitW, if_true, hgeq, Bool.false_and, Bool.or_false]
    congr 1
    exact List.map_congr_left fun x _ => (hfit x).symm]
   have hTR : TreeR w6 (fun k => k < w0.heap.size \/ B <= k) (from' C 0) (.mk 0 [] nz (Ls.map E) []) :=
    tree_rows hG (RowG.nil (Rl := TagR) (e := 0) (sz := 2) (B := B) (F := fun k => k < w0.heap.size) w6) ⟨by simp; omega, by simp⟩ (get_from' hC0) (get_from' hC1) (get_from' hC2) (get_from' hC3) (get_from' hC4') (fun k hk => hk) (fun k hk => hk)
   exact hTR.lt.mod (Mod.refl (S := none') w6) (fun _ _ f => f) (fun k hk => by
    rcases hk.1 with h | h
    ·exact .inl h
    ·exact .inr ⟨by omega, hk.2⟩))
  refine wp_seq (wp_region_lit (Zv rfl (x_loadN (cs := C.toList) (b := b9) (o := 0) (by rw [Array.length_toList, hCs]; kernel_rfl) (by rw [Ze]; exact h9) (fun j v hv => by rw [Zc hb9h, Nat.zero_add]; simpa using hv)) (wpl_skip rfl (x_storeN (cs := C) (b := b6) (o := 0) (by rw [hCs]; kernel_rfl) ?_ ?_ hall d2) (wpList_nil (wp_ret ?_)))))
  ·rw [Ze]; exact hB'.g6
  ·simp (disch := first | omega | simp only [Zs]; omega) only [Zo, Ze, Zn, Zq]
  ·rw [Zo]
   first | exact ⟨rfl, d1⟩ | (simp only [Exit.then, Exit.inBlock]; exact ⟨rfl, d1⟩)
 -- a number, other octets
 refine wp_cond_false (by rw [Ze, h37]; simp [hk11]) (wp_skip ?_)
 have hc0 : cs[0 + 0]? = some (.int .i64 t.N) := by rw [hce]; rfl
 have hc1 : cs[0 + 1]? = some s1 := by rw [hce]; rfl
 obtain ⟨va, vc, hv, _⟩ := hS.slice
 obtain ⟨on, ho2⟩ := hS.to_oct
 rw [hv] at ho2 hc1
 have hus : TreeR w4 (fun k => k < w0.heap.size \/ (b6 < k /\ k < w4.heap.size)) (from' #[.int .i64 t.N, .slice va t.S.length vc, .bool false, .slice none 0 0, .slice none 0 0] 0) (fitW (.mk kind fr to nl g d of sub) ver t) := by
  rw [show fitW (.mk kind fr to nl g d of sub) ver t = .mk t.N t.S false [] [] by simp [fitW, fitL, hk89, hk10, hk11]]
  exact .mk (f := fun _ _ => undef) (g := fun _ _ => undef) rfl hnN (ho2.mod m004 (fun _ _ f => f) (fun k hk => .inl hk)) rfl (by simp) elems_nil (fun i hi => by simp at hi) elems_nil (fun i hi => by simp at hi)
 simp only [Exit.then, Exit.inBlock]
 refine wp_seq (wp_region_lit (Zv rfl (Za (show fieldOff Tryz.prog 26 0 = some 0 by kernel_rfl) (b := b5) (o0 := 0) (by rw [Ze]; exact hB.g5)) (Zv rfl (Zl (by kernel_rfl) (b := b5) (o := 0 + 0) (v := .int .i64 t.N) ?_ (by rw [Zc h5]; exact hc0)) (Zv rfl (Za (show fieldOff Tryz.prog 26 1 = some 1 by kernel_rfl) (b := b5) (o0 := 0) ?_) (Zv rfl (Zl (by kernel_rfl) (b := b5) (o := 0 + 1) (v := .slice va t.S.length vc) ?_ (by rw [Zc h5]; exact hc1)) (Zv rfl (x_build (cells := #[.int .i64 t.N, .slice va t.S.length vc, .bool false, .slice none 0 0, .slice none 0 0]) ?_) ?_))))))
 ·simp (disch := first | omega | simp only [Zs]; omega) only [Zo, Ze, Zn, Zq]
 ·simp (disch := first | omega | simp only [Zs]; omega) only [Zo, Ze, Zn, Zq, hB.g5]
 ·simp (disch := first | omega | simp only [Zs]; omega) only [Zo, Ze, Zn, Zq]
 ·simp (disch := first | omega | simp only [Zs]; omega) only [List.map_toArray, List.map_cons, List.map_nil, Zo, Ze, Zn, Zq]
  kernel_rfl
 have hB' := ((((hB.put (t := 77) (by decide) (.pointer (some ⟨b5, 0 + 0, none⟩))).put (t := 78) (by decide) (.int .i64 t.N)).put (t := 79) (by decide) (.pointer (some ⟨b5, 0 + 1, none⟩))).put (t := 80) (by decide) (.slice va t.S.length vc)).put (t := 81) (by decide) (.agg #[.int .i64 t.N, .slice va t.S.length vc, .bool false, .slice none 0 0, .slice none 0 0])
 obtain ⟨d1, d2⟩ := hput #[.int .i64 t.N, .slice va t.S.length vc, .bool false, .slice none 0 0, .slice none 0 0] _ w4 0 rfl (by simp [Value.oneCell']) (Mod.refl _) hB' hus
 refine wpl_skip rfl (x_storeN (cs := #[.int .i64 t.N, .slice va t.S.length vc, .bool false, .slice none 0 0, .slice none 0 0]) (b := b6) (o := 0) (by kernel_rfl) ?_ ?_ (by simp [Value.oneCell']) d2) (wpList_nil (wp_ret ?_))
 ·rw [Ze]; exact hB'.g6
 ·simp (disch := first | omega | simp only [Zs]; omega) only [Zo, Ze, Zn, Zq]
 ·rw [Zo]
  first | exact ⟨rfl, d1⟩ | (simp only [Exit.then, Exit.inBlock]; exact ⟨rfl, d1⟩)
end Go.Proofs.YtmehfgiadapekaaGreat
