/-
  A message is made of a tree, and written (FnMake): the functions that set it, and the one that makes it.
  What a field is set to, kind by kind (FnMake).
  A message is made of a tree, and written (FnMake): the door.
-/
import Derived.Test.YtmehfgiadapekaaGreatPZq
set_option linter.unusedSimpArgs false
set_option linter.unusedVariables false
namespace Go.Proofs.YtmehfgiadapekaaGreat
open Go Go.RowKit
/-- a function that sets a message's fields -/
def FillC (P : Program) (f : FuncId) (σ : St) (ot : Nat) (fs : List FD) : Prop := ∀ (w0 w : World) (cs : Array Value) (y : Tr) (blk : Nat) (ver : Int), Mod none' w0 w -> cs.size = 5 -> TreeI w0 (from' cs 0) y -> w0.heap.size <= blk -> Cur { σ with tg := some ot } none' blk 0 (.num ver :: zerosW fs, []) w -> goksW fs 0 y -> UOk y.U ->
 Calls P f #[.pointer (some ⟨blk, 0, none⟩), .agg cs] w fun e w' => ∃ r F, e = .returned r /\ Mod none' w0 w' /\ Cur { σ with tg := some ot } F blk 0 (.num ver :: fillsW fs 0 y, y.U) w'
section
variable {P : Program} {σ : St} {fn : Func} {f ot N TT T i0 i1 : Nat} {rest : Code} {fs : List FD} {y1 y2 y3 : TypeId} {p1 p2 p3 : String} {e1 e2 e3 : Array Edge}
theorem tags_none {w : World} {v : Value} (h : TagsR w none' v []) : v = .map none := by
 rcases h with ⟨h, _⟩ | ⟨r, _, _, h, _⟩
 ·exact h
 ·exact h.elim
theorem fill_top (hf : P.funcs[f]? = some fn) (hN : fn.ntmps = N) (hres : fn.results = #[]) (htg : σ.tg = none) (h4 : 4 <= N) (hbody : fn.body = some (.seq (.region i0 #[⟨some 3, .box TT (.tmp 1), y1, p1, e1, none⟩] false) rest)) (hot : ot < σ.sz)
  (hrest : Rest P ⟨N, 3, 0, some ot, none, 0⟩ σ (KF σ ot) rest 1 0 fs) : FillC P f σ ot fs := by
 intro w0 w cs y blk ver hm0 hcs hT hblk hC hg hU
 refine calls_of_wp hf hbody ?_
 rw [hN]
 refine wp_act (fun a : Act => Act.get a 0 = .pointer (some ⟨blk, 0, none⟩) /\ Act.get a 1 = .agg cs /\ a.tmps.size = N /\ a.defers = []) ⟨by rw [Zj _ _ _ (by simp)]; rfl, by rw [Zj _ _ _ (by simp)]; rfl, by simp; omega, rfl⟩ ?_
 rintro a ⟨a0, a1, aN, ad⟩
 refine wp_seq (wp_region_lit (Zv rfl x_box (wpList_nil ?_)))
 rw [show a.eval (.tmp 1) = .agg cs from a1]
 obtain ⟨r1, m1⟩ := box_tree (w := w) (cs := cs) TT
 generalize w.alloc (.cells (Value.agg cs).cells TT) = w1 at *
 obtain ⟨C, t, h1, h2, h3, h4'⟩ := hC.mem
 have hbl := lt_of_block h1
 have hs0 := hm0.size
 have hs1 := m1.size
 have hFA : FA ⟨N, 3, 0, some ot, none, 0⟩ ⟨blk, w.heap.size, cs, y, w0, w1.heap.size, 0, w0⟩ (a.put (some 3) (.pointer (some ⟨w.heap.size, 0, none⟩))) w1 :=
  ⟨(Zs _ _ _).trans aN, (Zd _ _ _).trans ad, Zq (by omega), (Zn (d := 3) (t := 0) (by decide)).trans a0, ⟨_, r1⟩, hcs, hT, hm0.trans m1, ⟨hblk, hs0, by show blk ≠ w.heap.size; omega⟩, Nat.le_refl _, fun q hq => by
   obtain rfl : ot = q := by simpa using hq
   refine ⟨C, t, m1.some h1 (fun f => f), ?_⟩
   have hv := tags_none h4'
   have hlt : 0 + ot < C.size := by have : 0 + σ.sz <= C.size := h2; omega
   rw [Array.getElem?_eq_getElem hlt, <- hv]
   simp [from', show ot < C.size by omega], by show w0.heap.size <= w1.heap.size; omega, fun q hq => (by cases hq), hm0.trans m1, hblk, by show w0.heap.size <= w1.heap.size; omega, fun q hq => (by cases hq)⟩
 have hC1 : Cur σ (Fx.F ⟨blk, w.heap.size, cs, y, w0, w1.heap.size, 0, w0⟩) blk 0 (.num ver :: zerosW fs, []) w1 := by
  refine ⟨C, t, m1.some h1 (fun f => f), h2, h3.mod m1 (fun _ f => f.elim) (fun _ f => f.elim), ?_⟩
  rw [htg]
 refine wp_mono (hrest _ (.num ver :: zerosW fs, []) _ w1 hFA hC1 (by simp [zerosW_length]; omega) (fun k hk => ?_) hg hU) ?_
 ·show (Tr.num ver :: zerosW fs)[1 + k]? = _
  rw [show 1 + k = k + 1 by omega, List.getElem?_cons_succ]
  exact zerosW_at fs k hk
 rintro e a2 w2 ⟨rfl, g1, g2, g3⟩
 exact ⟨g1, .tuple #[], by simp [results, hres], .tuple #[], _, rfl, g2, by simpa using g3⟩
/-- a function that makes a struct within -/
theorem make_top (hf : P.funcs[f]? = some fn) (hN : fn.ntmps = N) (hres : fn.results = #[.cell 2 T]) (htg : σ.tg = none) (h4 : 4 <= N) (hbody : fn.body = some (.seq (.region i0 #[⟨some 1, .box TT (.tmp 0), y1, p1, e1, none⟩, ⟨some 2, .alloc T, y2, p2, e2, none⟩] false) (.seq (.region i1 #[⟨some 3, .alloc T, y3, p3, e3, none⟩] false) rest)))
  (hot : ot < σ.sz) {z : Value} (hz : zeroOf P T = some z) (hzs : z.cells.size = σ.sz) (hz0 : ∀ w F, RepL w F σ.lay (from' z.cells 0) (zerosW fs)) (hzt : z.cells[ot]? = some (.map none)) (hmT : many P T σ.sz = true)
  (hrest : Rest P ⟨N, 1, 3, some ot, some 2, σ.sz⟩ σ (KM σ ot 2) rest 0 0 fs) : ValC P f (.struct σ.lay (some ot) σ.sz) (fun y => .part (fillsW fs 0 y) y.U) (fun y => goksW fs 0 y /\ UOk y.U) := by
 rintro w0 w cs y hm0 hcs hT ⟨hg, hU⟩
 refine calls_of_wp hf hbody ?_
 rw [hN]
 refine wp_act (fun a : Act => Act.get a 0 = .agg cs /\ a.tmps.size = N /\ a.defers = []) ⟨by rw [Zj _ _ _ (by simp)]; rfl, by simp; omega, rfl⟩ ?_
 rintro a ⟨a0, aN, ad⟩
 refine wp_seq (wp_region_lit (Zv rfl x_box (Zv rfl (x_alloc hz) (wpList_nil ?_))))
 rw [show a.eval (.tmp 0) = .agg cs from a0]
 obtain ⟨r1, m1⟩ := box_tree (w := w) (cs := cs) TT
 generalize w.alloc (.cells (Value.agg cs).cells TT) = w1 at *
 have r2 := Zh w1 (.cells z.cells T)
 have m2 : Mod none' w1 (w1.alloc (.cells z.cells T)) := (Mod.refl w1).alloc _
 have z2 : (w1.alloc (.cells z.cells T)).heap.size = w1.heap.size + 1 := by simp
 generalize w1.alloc (.cells z.cells T) = w2 at *
 refine wp_seq (wp_region_lit (Zv rfl (x_alloc hz) (wpList_nil ?_)))
 have r3 := Zh w2 (.cells z.cells T)
 have m3 : Mod none' w2 (w2.alloc (.cells z.cells T)) := (Mod.refl w2).alloc _
 have z3 : (w2.alloc (.cells z.cells T)).heap.size = w2.heap.size + 1 := by simp
 generalize w2.alloc (.cells z.cells T) = w3 at *
 have hb1 := lt_of_block r1
 have hs0 := hm0.size
 have m03 : Mod none' w0 w3 := ((hm0.trans m1).trans m2).trans m3
 have hlt : 0 + ot < z.cells.size := by omega
 have hFA : FA ⟨N, 1, 3, some ot, some 2, σ.sz⟩ ⟨w2.heap.size, w.heap.size, cs, y, w0, w3.heap.size, w1.heap.size, w⟩ (((a.put (some 1) (.pointer (some ⟨w.heap.size, 0, none⟩))).put (some 2) (.pointer (some ⟨w1.heap.size, 0, none⟩))).put (some 3) (.pointer (some ⟨w2.heap.size, 0, none⟩))) w3 :=
  ⟨by simp only [Zs]; exact aN, by simp only [Zd]; exact ad, by show Act.get _ 1 = _; rw [Zn (d := 3) (t := 1) (by decide), Zn (d := 2) (t := 1) (by decide), Zq (by omega)], by show Act.get _ 3 = _; rw [Zq (by simp only [Zs]; omega)], ⟨_, (m2.trans m3).some r1 (fun f => f)⟩, hcs, hT, m03, ⟨by show w0.heap.size <= w2.heap.size; omega, hs0, by show w2.heap.size ≠ w.heap.size; omega⟩, Nat.le_refl _, fun q hq => by
   obtain rfl : ot = q := by simpa using hq
   exact ⟨z.cells, T, r3, by rw [Nat.zero_add]; exact hzt⟩, by show w0.heap.size <= w3.heap.size; omega, fun q hq => by
   obtain rfl : 2 = q := by simpa using hq
   refine ⟨by rw [Zn (d := 3) (t := 2) (by decide), Zq (by simp only [Zs]; omega)], by show w1.heap.size < w3.heap.size; omega, by show w1.heap.size ≠ w2.heap.size; omega, by show w0.heap.size <= w1.heap.size; omega, z.cells, T, m3.some r2 (fun f => f), hzs⟩, (m1.trans m2).trans m3, by show w.heap.size <= w2.heap.size; omega, by show w.heap.size <= w3.heap.size; omega, fun q hq => by show w.heap.size <= w1.heap.size; omega⟩
 have hC1 : Cur σ (Fx.F ⟨w2.heap.size, w.heap.size, cs, y, w0, w3.heap.size, w1.heap.size, w⟩) w2.heap.size 0 (zerosW fs, []) w3 := by
  refine ⟨z.cells, T, r3, by omega, hz0 _ _, ?_⟩
  rw [htg]
 refine wp_mono (hrest _ (zerosW fs, []) _ w3 hFA hC1 (by simp [zerosW_length]) (fun k hk => ?_) hg hU) ?_
 ·show (zerosW fs)[0 + k]? = _
  rw [Nat.zero_add]
  exact zerosW_at fs k hk
 rintro e a2 w4 ⟨rfl, g1, g2, hmz, g3, C, t, g4, g5, g6, g7⟩
 refine bodyPost_ret (results_cellN hres (b := w1.heap.size) (o := 0) (cs := C.toList) g3 (by rw [Array.length_toList, g5]; exact hmT) (fun j v hv => by rw [Zc g4, Nat.zero_add]; simpa using hv)) g1 ⟨_, rfl, hmz, .inr ⟨C, by simp, g5, g6, ?_⟩⟩
 exact g7.mod (Mod.refl (S := none') w4) (fun _ _ f => f) (fun k hk => hk.imp id fun h => by have : w3.heap.size <= k := h; omega)
end
end Go.Proofs.YtmehfgiadapekaaGreat
set_option linter.unusedSimpArgs false
set_option linter.unusedVariables false
namespace Go.Proofs.YtmehfgiadapekaaGreat
open Go Go.RowKit
theorem iat_C : AtC Tryz.prog 39 := @iat_c
section
variable {fr to nl g d of : Int} {sub : List FD} {y : Tr}
theorem fk_i8 : Tr.num (IntKind.i8.wrap y.N) = fillW (.mk 1 fr to nl g d of sub) y := by simp [fillW, fillL, expL]
theorem fk_i16 : Tr.num (IntKind.i16.wrap y.N) = fillW (.mk 2 fr to nl g d of sub) y := by simp [fillW, fillL, expL]
theorem fk_i32 : Tr.num (IntKind.i32.wrap y.N) = fillW (.mk 3 fr to nl g d of sub) y := by simp [fillW, fillL, expL, wrap32_eq]
theorem fk_i64 : Tr.num (wrap64 y.N) = fillW (.mk 4 fr to nl g d of sub) y := by simp [fillW, fillL, expL]
theorem fk_uuid : Tr.oct (uu y.S) = fillW (.mk 7 fr to nl g d of sub) y := by simp [fillW, fillL, expL]
theorem fk_pstr (h : 0 <= nl) : (if y.Z = true then Tr.nul else .oct y.S) = fillW (.mk 8 fr to nl g d of sub) y := by simp [fillW, fillL, h]
theorem fk_list : (if y.Z = true then Tr.nul else .list (y.L.map fun x => Tr.part (fillsW sub 0 x) x.U) false) = fillW (.mk 11 fr to nl g d 10 sub) y := by simp [fillW]
theorem fo_text (h : gokW (.mk 8 fr to nl g d of sub) y) : y.S.length <= 32767 := by simp [gokW, gokL] at h; exact h
theorem fo_list (h : gokW (.mk 11 fr to nl g d 10 sub) y) : y.L.length <= 32767 /\ ∀ x ∈ y.L, goksW sub 0 x /\ UOk x.U := by simpa [gokW] using h
end
end Go.Proofs.YtmehfgiadapekaaGreat
set_option linter.unusedSimpArgs false
set_option linter.unusedVariables false
namespace Go.Proofs.YtmehfgiadapekaaGreat
open Go Go.RowKit
/-- a message is made of what fits, and written -/
def MakeC (P : Program) (f : FuncId) (flexible : Int -> Bool) (ok : OkV) (fs : List FD) : Prop := ∀ (w : World) (cs : Array Value) (y : Tr) (n : Int), cs.size = 5 -> TreeI w (from' cs 0) y -> ok (IntKind.i16.wrap n) (flexible (IntKind.i16.wrap n)) -> goksW fs 0 y -> UOk y.U ->
 (encP fs (IntKind.i16.wrap n) (flexible (IntKind.i16.wrap n)) (fillsW fs 0 y, y.U)).length <= 4294967296 ->
 Calls P f #[.int .i64 n, .agg cs] w fun e w' => ∃ z, e = .returned z /\ Mod none' w w' /\ OwnB w' w.heap.size z (encP fs (IntKind.i16.wrap n) (flexible (IntKind.i16.wrap n)) (fillsW fs 0 y, y.U))
section
variable {P : Program} {σ σa : St} {fn : Func} {f fSet fFill fApp ot T TT i0 i1 i2 i3 i4 yi y16 : Nat} {fs : List FD} {zc : Array Value}
 {y0 y1 y2 y3 y4 y5 y6 y7 y8 y9 y10 y11 y12 y13 y14 : TypeId} {p0 p1 p2 p3 p4 p5 p6 p7 p8 p9 p10 p11 p12 p13 p14 : String} {e0 e1 e2 e3 e4 e5 e6 e7 e8 e9 e10 e11 e12 e13 e14 : Array Edge} {ts2 ts3 ts4 : Array TypeId}
theorem make_rule {flexible : Int -> Bool} {ok : OkV} (hf : P.funcs[f]? = some fn) (hN : fn.ntmps = 17) (hres : fn.results = #[.tmp 4])
  (hbody : fn.body = some (.seq (.region i0 #[⟨some 3, .box TT (.tmp 1), y0, p0, e0, none⟩, ⟨some 4, .assign (.const (.slice none 0 0)), y1, p1, e1, none⟩] false)
   (.seq (.region i1 #[⟨some 6, .build T #[], y2, p2, e2, none⟩, ⟨some 7, .box T (.tmp 6), y3, p3, e3, none⟩, ⟨some 5, .assign (.tmp 7), y4, p4, e4, none⟩] false)
   (.seq (.region i2 #[⟨some 8, .move (.tmp 5), y5, p5, e5, none⟩, ⟨some 9, .move (.tmp 0), y6, p6, e6, none⟩, ⟨some 10, .convert yi y16 (.tmp 9), y7, p7, e7, none⟩, ⟨some 11, .call ⟨.value (.func fSet), #[.tmp 8, .tmp 10], ts2⟩, y8, p8, e8, none⟩] false)
   (.seq (.region i3 #[⟨some 12, .move (.tmp 5), y9, p9, e9, none⟩, ⟨some 13, .load TT (.tmp 3), y10, p10, e10, none⟩, ⟨some 14, .call ⟨.value (.func fFill), #[.tmp 12, .tmp 13], ts3⟩, y11, p11, e11, none⟩] false)
   (.seq (.region i4 #[⟨some 15, .move (.tmp 5), y12, p12, e12, none⟩, ⟨some 16, .call ⟨.value (.func fApp), #[.tmp 15, .const (.slice none 0 0)], ts4⟩, y13, p13, e13, none⟩, ⟨some 4, .assign (.tmp 16), y14, p14, e14, none⟩] false) .ret))))))
  (hb2 : bodied P fSet = true) (hb3 : bodied P fFill = true) (hb4 : bodied P fApp = true) (hi : intTy P yi .i64 = true) (h16 : intTy P y16 .i16 = true) (hmT : many P TT 5 = true)
  (hz : P.built T [] = some zc) (hzs : σ.sz <= zc.size) (h0 : ∀ w F, RepL w F σ.lay (from' zc 0) (.num 0 :: zerosW fs)) (hzt : from' zc 0 ot = .map none)
  (hSet : SetC P fSet { σ with tg := some ot }) (hFill : FillC P fFill σ ot fs) (hApp : AppToC P fApp σa flexible ok fs) (hs1 : σa.lay = σ.lay) (hs2 : σa.tg = some ot) (hs3 : σa.sz = σ.sz) : MakeC P f flexible ok fs := by
 intro w cs y n hcs hT hok hg hU hlen
 refine calls_of_wp hf hbody ?_
 rw [hN]
 refine wp_act (fun a : Act => Act.get a 0 = .int .i64 n /\ Act.get a 1 = .agg cs /\ a.tmps.size = 17 /\ a.defers = []) ⟨by rw [Zj _ _ _ (by simp)]; rfl, by rw [Zj _ _ _ (by simp)]; rfl, by simp, rfl⟩ ?_
 rintro a ⟨a0, a1, aN, ad⟩
 refine wp_seq (wp_region_lit (Zv rfl x_box (Zv rfl Zi (wpList_nil ?_))))
 rw [show a.eval (.tmp 1) = .agg cs from a1]
 obtain ⟨tb, htb⟩ : ∃ b, b = w.heap.size := ⟨_, rfl⟩
 obtain ⟨r1, m1⟩ := box_tree (w := w) (cs := cs) TT
 rw [<- htb] at r1 ⊢
 have z1 : (w.alloc (.cells (Value.agg cs).cells TT)).heap.size = w.heap.size + 1 := by simp
 generalize w.alloc (.cells (Value.agg cs).cells TT) = w1 at *
 -- a new message
 refine wp_seq (wp_region_lit (Zv rfl (x_build (cells := zc) (by simpa using hz)) (Zv rfl x_box (Zv rfl Zi (wpList_nil ?_)))))
 rw [show ∀ (a : Act) v, a.tmps.size = 17 -> (a.put (some 6) v).eval (.tmp 6) = v from fun a v h => by rw [Ze, Zq (by omega)]]
 rotate_left
 ·simp only [Zs]; exact aN
 have r2 := Zh w1 (.cells (Value.agg zc).cells T)
 have m2 : Mod none' w1 (w1.alloc (.cells (Value.agg zc).cells T)) := (Mod.refl w1).alloc _
 obtain ⟨vb, hvb⟩ : ∃ b, b = w1.heap.size := ⟨_, rfl⟩
 rw [<- hvb] at r2 ⊢
 generalize w1.alloc (.cells (Value.agg zc).cells T) = w2 at *
 replace r2 : w2.heap[vb]? = some (.cells zc T (0, 0)) := r2
 have m02 : Mod none' w w2 := m1.trans m2
 have c2 : Cur { σ with tg := some ot } none' vb 0 (.num 0 :: zerosW fs, []) w2 := ⟨zc, T, r2, by show 0 + σ.sz <= zc.size; omega, h0 _ _, .inl ⟨hzt, rfl⟩⟩
 refine wp_act (fun a : Act => Act.get a 0 = .int .i64 n /\ Act.get a 3 = .pointer (some ⟨tb, 0, none⟩) /\ Act.get a 5 = .pointer (some ⟨vb, 0, none⟩) /\ a.tmps.size = 17 /\ a.defers = []) ⟨?_, ?_, ?_, ?_, ?_⟩ ?_
 ·simp (disch := first | omega | simp only [Zs]; omega) only [Zo, Ze, Zn, Zq, a0]
 ·simp (disch := first | omega | simp only [Zs]; omega) only [Zo, Ze, Zn, Zq]
 ·simp (disch := first | omega | simp only [Zs]; omega) only [Zo, Ze, Zn, Zq]
 ·simp only [Zs]; exact aN
 ·simp only [Zd]; exact ad
 clear a0 a1 aN ad
 rintro a ⟨a0, a3, a5, aN, ad⟩
 -- its version
 have hfit : fits .i16 (IntKind.i16.wrap n) := fits_wrap _ _
 refine wp_seq (wp_region_lit (Zv rfl Zm (Zv rfl Zm (Zv rfl (x_convInt (n := n) hi h16 ?_) (wpl_call rfl (Zy hb2 rfl) (R := fun e w' => ∃ r, e = .returned r /\ Mod (only vb) w2 w' /\ Cur { σ with tg := some ot } none' vb 0 (.num (IntKind.i16.wrap n) :: zerosW fs, []) w') ?_ ?_)))))
 ·simp (disch := first | omega | simp only [Zs]; omega) only [Zo, Ze, Zn, Zq, a0]
 ·rw [show ∀ a : Act, (#[Operand.tmp 8, .tmp 10] : Array Operand).map a.eval = #[Act.get a 8, Act.get a 10] from fun a => by simp [Ze]]
  simp (disch := first | omega | simp only [Zs]; omega) only [Zo, Ze, Zn, Zq, a5]
  exact hSet vb _ _ w2 hfit c2
 rintro e w3 ⟨q3, rfl, m3, c3⟩
 refine ⟨q3, rfl, wpList_nil ?_⟩
 have hs1' := m1.size
 have m03 : Mod none' w w3 := m02.trans' m3 (fun _ _ f => f) (fun i hi e => by have : i = vb := e; omega)
 have r13 : w3.heap[tb]? = some (.cells cs TT (0, 0)) := m3.some (m2.some r1 (fun f => f)) (fun e => by have : tb = vb := e; omega)
 refine wp_act (fun a : Act => Act.get a 3 = .pointer (some ⟨tb, 0, none⟩) /\ Act.get a 5 = .pointer (some ⟨vb, 0, none⟩) /\ a.tmps.size = 17 /\ a.defers = []) ⟨?_, ?_, ?_, ?_⟩ ?_
 ·simp (disch := first | omega | simp only [Zs]; omega) only [Zo, Ze, Zn, Zq, a3]
 ·simp (disch := first | omega | simp only [Zs]; omega) only [Zo, Ze, Zn, Zq, a5]
 ·simp only [Zs]; exact aN
 ·simp only [Zd]; exact ad
 clear a0 a3 a5 aN ad
 rintro a ⟨a3, a5, aN, ad⟩
 -- it is set
 refine wp_seq (wp_region_lit (Zv rfl Zm (Zv rfl (x_loadN (cs := cs.toList) (b := tb) (o := 0) (by rw [Array.length_toList, hcs]; exact hmT) ?_ (fun j v hv => by rw [Zc r13, Nat.zero_add]; simpa using hv)) (wpl_call rfl (Zy hb3 rfl) (R := fun e w' => ∃ r F, e = .returned r /\ Mod none' w w' /\ Cur { σ with tg := some ot } F vb 0 (.num (IntKind.i16.wrap n) :: fillsW fs 0 y, y.U) w') ?_ ?_))))
 ·simp (disch := first | omega | simp only [Zs]; omega) only [Zo, Ze, Zn, Zq, a3]
 ·rw [show ∀ a : Act, (#[Operand.tmp 12, .tmp 13] : Array Operand).map a.eval = #[Act.get a 12, Act.get a 13] from fun a => by simp [Ze]]
  simp (disch := first | omega | simp only [Zs]; omega) only [Zo, Ze, Zn, Zq, a5]
  exact hFill w w3 cs y vb _ m03 hcs hT (by omega) c3 hg hU
 rintro e w5 ⟨q5, F, rfl, m5, c5⟩
 refine ⟨q5, rfl, wpList_nil ?_⟩
 refine wp_act (fun a : Act => Act.get a 5 = .pointer (some ⟨vb, 0, none⟩) /\ a.tmps.size = 17 /\ a.defers = []) ⟨?_, ?_, ?_⟩ ?_
 ·simp (disch := first | omega | simp only [Zs]; omega) only [Zo, Ze, Zn, Zq, a5]
 ·simp only [Zs]; exact aN
 ·simp only [Zd]; exact ad
 clear a3 a5 aN ad
 rintro a ⟨a5, aN, ad⟩
 -- it is written
 have hbl : vb < w5.heap.size := by obtain ⟨C, t, g1, _⟩ := c5.mem; exact lt_of_block g1
 have c6 : Cur σa (fun k => k < w5.heap.size) vb 0 (.num (IntKind.i16.wrap n) :: fillsW fs 0 y, y.U) w5 := by
  obtain ⟨C, t, g1, g2, g3, g4⟩ := c5.lt.mem
  refine ⟨C, t, g1, by rw [hs3]; exact g2, by rw [hs1]; exact g3.mod (Mod.refl (S := none') w5) (fun _ _ f => f) (fun k hk => hk.2), ?_⟩
  rw [hs2]
  exact TagsR.mod g4 (Mod.refl (S := none') w5) (fun _ _ f => f) (fun k hk => hk.2)
 refine wp_seq (wp_region_lit (Zv rfl Zm (wpl_call rfl (Zy hb4 rfl) (R := fun e w' => ∃ z, e = .returned z /\ OwnB w' w5.heap.size z ([] ++ encP fs (IntKind.i16.wrap n) (flexible (IntKind.i16.wrap n)) (fillsW fs 0 y, y.U)) /\ Mod (fun k => w5.heap.size <= k) w5 w') ?_ ?_)))
 ·rw [show ∀ a : Act, (#[Operand.tmp 15, .const (.slice none 0 0)] : Array Operand).map a.eval = #[Act.get a 15, .slice none 0 0] from fun a => by simp [Ze]; rfl]
  simp (disch := first | omega | simp only [Zs]; omega) only [Zo, Ze, Zn, Zq, a5]
  exact hApp w5 _ vb (.num (IntKind.i16.wrap n) :: fillsW fs 0 y, y.U) _ w5.heap.size _ [] c6 rfl hok (fun k hk => hk) hbl (OwnB.nil _ _) (Nat.le_refl _) (by simpa using hlen)
 rintro e w7 ⟨z, rfl, o7, m7⟩
 rw [List.nil_append] at o7
 refine ⟨_, rfl, Zv rfl Zi (wpList_nil (wp_ret ?_))⟩
 refine bodyPost_ret (results_tmp hres _ _ _) ?_ ⟨z, ?_, ?_, ?_⟩
 ·simp only [Zd]; exact ad
 ·rw [show ∀ (a : Act) t, a.tmps.getD t undef = Act.get a t from fun _ _ => rfl]
  simp (disch := first | omega | simp only [Zs]; omega) only [Zo, Ze, Zn, Zq]
 ·exact m5.trans' m7 (fun _ _ f => f) (fun i hi e => by have := m5.size; omega)
 ·exact o7.low (by have := m5.size; omega)
end
end Go.Proofs.YtmehfgiadapekaaGreat
