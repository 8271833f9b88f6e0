/-
  A kept message: it is read with its version ahead.
-/
import Derived.Test.YtcldbjehliladaaDoorPTelS
set_option linter.unusedSimpArgs false
set_option linter.unusedVariables false
namespace Go.Proofs.YtcldbjehliladaaDoor
open Go Go.RowKit
/-- the version is read first -/
def kRead (f : FT) (dv : SV) (s : RS) : R SV := f (rdInt16 s).1 false (dv.1.set 0 (.num (rdInt16 s).1), dv.2) (rdInt16 s).2
/-- what reading a kept message does -/
def ReadK (P : Program) (fid : FuncId) (σ : St) (f : FT) (d : SV -> SV) : Prop :=
 ∀ vb v uns srcv sb bs nil ev w, ErrIs w ev -> vb ≠ gErr -> vb ≠ sb -> sb < w.heap.size -> Cur σ none' vb 0 v w -> Src w srcv sb bs nil -> kRead f (d v) ⟨bs, nil, false⟩ ≠ .stuck ->
  Calls P fid #[.pointer (some ⟨vb, 0, none⟩), srcv, .bool uns] w fun e w' => ∃ r, e = .returned r /\ Mod (only vb) w w' /\ match kRead f (d v) ⟨bs, nil, false⟩ with
   | .ok v' s' => r = endErr ev s'.bad /\ Cur σ (fun k => k = sb \/ w.heap.size <= k) vb 0 v' w'
   | .early => r = ev
   | .stuck => False
theorem cur_ver {σ : St} {blk : Nat} {v : SV} {w : World} {ver : Int} (hC : Cur σ none' blk 0 v w) (hlay : σ.lay.at 0 = some (0, .int .i16)) (hok : σ.lay.ok 0 σ.sz = true) (htg : TagIn σ.tg σ.sz = true) (htg0 : σ.tg ≠ some 0) (hfit : fits .i16 ver) :
  Cur σ none' blk 0 (v.1.set 0 (.num ver), v.2) (w.setCell ⟨blk, 0 + 0, none⟩ (.int .i16 ver)) /\ ∃ C t, w.heap[blk]? = some (.cells C t (0, 0)) /\ 0 < C.size := by
 obtain ⟨C, t, h1, h2, h3, h4⟩ := hC.mem
 have hin := Lay.at_in _ _ _ _ _ _ hok hlay
 simp only [Ty.size] at hin
 have h0C : 0 < C.size := by omega
 have hmm : Mod (only blk) w (w.setCell ⟨blk, 0 + 0, none⟩ (.int .i16 ver)) := (Mod.refl w).put _ _
 refine ⟨⟨C.setIfInBounds 0 (.int .i16 ver), t, heap_setCell_same h1 _, by simpa using h2, ?_, ?_⟩, C, t, h1, h0C⟩
 ·refine RepL.set σ.lay 0 σ.sz 0 0 (.int .i16) (from' C 0) _ v.1 (.num ver) hok hlay (fun j h1 h2 h3 => ?_) ?_ (h3.mod hmm (fun _ f => f.elim) (fun _ f => f.elim))
  ·simp only [Ty.size] at h3
   simp only [from', Nat.zero_add, Array.getD_eq_getD_getElem?]
   rw [Array.getElem?_setIfInBounds_ne (by omega)]
  ·refine ⟨ver, ?_, hfit, rfl⟩
   simp [from', h0C]
 ·cases hg : σ.tg with
  | none => rw [hg] at h4; exact h4
  | some o =>
   rw [hg] at h4
   have ho : 0 ≠ o := fun e => htg0 (by rw [hg, <- e])
   have e1 : from' (C.setIfInBounds 0 (.int .i16 ver)) 0 o = from' C 0 o := by
    simp only [from', Nat.zero_add, Array.getD_eq_getD_getElem?]
    rw [Array.getElem?_setIfInBounds_ne ho]
   show TagsR _ _ (from' (C.setIfInBounds 0 (.int .i16 ver)) 0 o) v.2
   rw [e1]
   exact TagsR.mod h4 hmm (fun _ f => f.elim) (fun _ f => f.elim)
section
variable {P : Program} {σ : St} {f : FT} {fn : Func} {fid fd fI TR T : Nat} {i0 i1 i2 i3 i4 i7 iv : Nat} {m N : Nat} {d : SV -> SV} {rest : Code}
 {ts1 ts2 : Array TypeId} {y00 y10 y11 y20 y21 y22 y23 y30 y31 y32 y33 y34 y40 y70 y71 y0 z0 z1 z2 z3 z4 : TypeId}
 {p00 p10 p11 p20 p21 p22 p23 p30 p31 p32 p33 p34 p40 p70 p71 q0 q1 q2 q3 q4 : String} {e00 e10 e11 e20 e21 e22 e23 e30 e31 e32 e33 e34 e40 e70 e71 c0 c1 c2 c3 c4 : Array Edge}
set_option maxHeartbeats 1000000 in
/-- a message that is kept, and never flexible -/
theorem read_kept (hf : P.funcs[fid]? = some fn) (hN : fn.ntmps = N) (hres : fn.results = #[.tmp 6]) (hR : RdT P TR) (h16 : one P y0 = true) (hver : fieldOff P T 0 = some 0) (hlay : σ.lay.at 0 = some (0, .int .i16)) (hsz : σ.lay.ok 0 σ.sz = true)
  (htg : TagIn σ.tg σ.sz = true) (htg0 : σ.tg ≠ some 0) (hs16 : sized P y0 1 = true)
  (hs : σ.s = 9) (hm : 10 <= m) (hmN : m + 14 <= N) (hbd : bodied P fd = true) (hd : DfC P fd σ d) (hbI : bodied P fI = true)
  (hI : ∀ w rb sb s, Rd w rb sb s -> Calls P fI #[.pointer (some ⟨rb, 0, none⟩)] w fun e w' => e = .returned (.int .i16 (rdInt16 s).1) /\ Rd w' rb sb (rdInt16 s).2 /\ Mod (only rb) w w')

  (hbody : fn.body = some (.seq (.region i0 #[⟨some 6, .assign (.const .nilIface), y00, p00, e00, none⟩] false)
   (.seq (.region i1 #[⟨some m, .move (.tmp 0), y10, p10, e10, none⟩, ⟨some (m + 1), .call ⟨.value (.func fd), #[.tmp m], ts1⟩, y11, p11, e11, none⟩] false)
   (.seq (.region i2 #[⟨some (m + 2), .move (.tmp 1), y20, p20, e20, none⟩, ⟨some (m + 3), .build TR #[(0, .tmp (m + 2))], y21, p21, e21, none⟩, ⟨some 7, .alloc TR, y22, p22, e22, none⟩, ⟨none, .store TR (.tmp 7) (.tmp (m + 3)), y23, p23, e23, none⟩] false)
   (.seq (.region iv #[⟨some (m + 4), .move (.tmp 0), z0, q0, c0, none⟩, ⟨some (m + 5), .call ⟨.value (.func fI), #[.tmp 7], ts2⟩, z1, q1, c1, none⟩, ⟨some (m + 6), .nilCheck (.tmp (m + 4)), z2, q2, c2, none⟩, ⟨some (m + 7), .fieldAddr T (.tmp (m + 6)) 0, z3, q3, c3, none⟩, ⟨none, .store y0 (.tmp (m + 7)) (.tmp (m + 5)), z4, q4, c4, none⟩] false)
   (.seq (.region i3 #[⟨some (m + 8), .move (.tmp 0), y30, p30, e30, none⟩, ⟨some (m + 9), .nilCheck (.tmp (m + 8)), y31, p31, e31, none⟩, ⟨some (m + 10), .fieldAddr T (.tmp (m + 9)) 0, y32, p32, e32, none⟩, ⟨some (m + 11), .load y0 (.tmp (m + 10)), y33, p33, e33, none⟩, ⟨some 8, .assign (.tmp (m + 11)), y34, p34, e34, none⟩] false)
   (.seq (.region i4 #[⟨some (m + 12), .move (.tmp 8), y40, p40, e40, none⟩] false)
   (.seq (.region i7 #[⟨some (m + 13), .move (.tmp 0), y70, p70, e70, none⟩, ⟨some 9, .assign (.tmp (m + 13)), y71, p71, e71, none⟩] false) rest))))))))
  (hrest : Whole P (slPlain N) σ rest f) : ReadK P fid σ f d := by
 intro vb v uns srcv sb bs nil ev w hE hg hvs hsb hC hsrc hns0
 obtain ⟨ver, hver0⟩ : ∃ ver, ver = (rdInt16 ⟨bs, nil, false⟩).1 := ⟨_, rfl⟩
 obtain ⟨s1, hs1⟩ : ∃ s1, s1 = (rdInt16 ⟨bs, nil, false⟩).2 := ⟨_, rfl⟩
 obtain ⟨dv, hdv⟩ : ∃ dv : SV, dv = ((d v).1.set 0 (.num ver), (d v).2) := ⟨_, rfl⟩
 have hk : kRead f (d v) ⟨bs, nil, false⟩ = f ver false dv s1 := by rw [hdv, hver0, hs1]; rfl
 rw [hk] at hns0 ⊢
 have hns : f ver false dv s1 ≠ .stuck := hns0
 have hfit : fits .i16 ver := hver0 ▸ rdInt16_fits _
 clear hns0
 refine calls_of_wp hf hbody ?_
 rw [hN]
 obtain ⟨aa, haa⟩ : ∃ aa : Act, aa = { tmps := (#[.pointer (some ⟨vb, 0, none⟩), srcv, .bool uns] : Array Value) ++ Array.replicate (N - (#[.pointer (some ⟨vb, 0, none⟩), srcv, .bool uns] : Array Value).size) undef, defers := [] } := ⟨_, rfl⟩
 rw [<- haa]
 have g0 : Act.get aa 0 = .pointer (some ⟨vb, 0, none⟩) := by rw [haa, Zj _ _ _ (by simp)]; rfl
 have g1 : Act.get aa 1 = srcv := by rw [haa, Zj _ _ _ (by simp)]; rfl
 have g2 : Act.get aa 2 = .bool uns := by rw [haa, Zj _ _ _ (by simp)]; rfl
 have gN : aa.tmps.size = N := by rw [haa]; simp; omega
 have gd : aa.defers = [] := by rw [haa]
 clear haa
 refine wp_seq (wp_region_lit (Zv rfl Zi (wpList_nil ?_)))
 refine wp_seq (wp_region_lit (Zv rfl Zm ?_))
 simp (disch := omega) only [Zo, Ze, Zn, g0]
 have hvb : vb < w.heap.size := by obtain ⟨C, t, h, _⟩ := hC.mem; exact lt_of_block h
 refine wpl_call rfl (Zy hbd rfl) (R := fun e w' => (∃ r, e = .returned r) /\ Mod (only vb) w w' /\ Cur σ none' vb 0 (d v) w' /\
  ∀ C t, w.heap[vb]? = some (.cells C t (0, 0)) -> ∃ C', w'.heap[vb]? = some (.cells C' t (0, 0)) /\ C'.size = C.size /\ ∀ j, j < 0 \/ 0 + σ.sz <= j -> C'[j]? = C[j]?) ?_ ?_
 ·have e0 : ∀ a : Act, Act.get a m = .pointer (some ⟨vb, 0, none⟩) -> (#[Operand.tmp m] : Array Operand).map a.eval = #[.pointer (some ⟨vb, 0, none⟩)] := fun a h => by simp [Ze, h]
  rw [e0 _ (Zq (by simp only [Zs]; omega))]
  exact hd none' vb 0 v w hC (fun _ f => f.elim)
 rintro e w1 ⟨⟨r, rfl⟩, hm1, hC1, hout1⟩
 refine ⟨r, rfl, wpList_nil ?_⟩
 refine wp_seq (wp_region_lit (Zv rfl Zm ?_))
 simp (disch := omega) only [Zo, Ze, Zn, g1]
 have hcs := src_one hsrc
 have hl1 : w.heap.size <= w1.heap.size := hm1.size
 refine Zv rfl (x_build (cells := #[srcv, .bool false]) ?_) ?_
 ·simp (disch := (simp only [Zs]; omega)) only [List.map_toArray, List.map_cons, List.map_nil, Ze, Zq]
  exact hR.built srcv hcs
 obtain ⟨z, hz, hzs⟩ := hR.zero
 refine Zv rfl (x_alloc hz) ?_
 obtain ⟨w2, hw2⟩ : ∃ w2, w2 = w1.alloc (.cells z.cells TR) := ⟨_, rfl⟩
 rw [<- hw2]
 have hrb2 : w2.heap[w1.heap.size]? = some (.cells z.cells TR (0, 0)) := by rw [hw2]; exact Zh _ _
 have hm2 : Mod none' w1 w2 := by rw [hw2]; exact (Mod.refl w1).alloc _
 have hs2 : w2.heap.size = w1.heap.size + 1 := by rw [hw2]; simp
 clear hw2
 refine wpl_skip rfl (x_storeN (cs := #[srcv, .bool false]) (b := w1.heap.size) (o := 0) hR.size ?_ ?_ ?_ ?_) (wpList_nil ?_)
 ·simp (disch := (simp only [Zs]; omega)) only [Zo, Ze, Zq]
 ·simp (disch := first | omega | simp only [Zs]; omega) only [Zo, Ze, Zn, Zq]
 ·have : srcv.oneCell' = true := by cases srcv <;> first | rfl | (rcases hsrc with ⟨_, h, _⟩ | ⟨_, off, cap, c, t, fr, h, _⟩ <;> cases h)
  rw [Array.all_eq_true_iff_forall_mem]
  intro q hq
  simp at hq
  rcases hq with rfl | rfl
  ·exact this
  ·rfl
 ·intro j hj
  simp at hj
  rw [Zc hrb2, Zz hrb2, Array.getElem?_eq_getElem (by omega)]
  exact ⟨rfl, rfl⟩
 obtain ⟨C3, k1, k2, k3, k4⟩ := heap_setCells (w := w2) [srcv, .bool false] 0 _ hrb2
 have hC3 : C3 = #[srcv, .bool false] := by
  apply Array.ext
  ·rw [k2, hzs]; rfl
  ·intro i h1 h2
   have hi : i < 2 := by simpa using h2
   have := k3 i (by simpa using hi) (by omega)
   rw [Nat.zero_add, Array.getElem?_eq_getElem h1] at this
   simpa using this
 subst hC3
 obtain ⟨w3, hw3⟩ : ∃ w3, w3 = w2.setCells w1.heap.size 0 [srcv, .bool false] := ⟨_, rfl⟩
 have hm3 : Mod (only w1.heap.size) w2 w3 := by rw [hw3]; exact mod_setCells _ _ _ _
 rw [<- hw3] at k1 ⊢
 clear hw3 k3 k4 hrb2
 have hm13 : Mod none' w1 w3 := hm2.trans' hm3 (fun _ _ f => f) (fun i hi e => by have : i = w1.heap.size := e; omega)
 have hC3 : Cur σ none' vb 0 (d v) w3 := hC1.later hm13 (fun f => f) (fun _ f => f.elim)
 have hm03 : Mod (only vb) w w3 := hm1.trans' hm13 (fun _ _ h => h) (fun _ _ f => f.elim)
 have hl3 : w1.heap.size < w3.heap.size := lt_of_block k1
 have hrd0 : Rd w3 w1.heap.size sb ⟨bs, nil, false⟩ := by
  refine ⟨hl3, by omega, srcv, TR, k1, (hsrc.mod hm1 (fun e => hvs e.symm)).mod hm13 (fun f => f)⟩
 refine wp_seq (wp_region_lit (Zv rfl Zm ?_))
 simp (disch := omega) only [Zo, Ze, Zn, g0]
 refine wpl_call rfl (Zy hbI rfl) (R := fun e w' => e = .returned (.int .i16 ver) /\ Rd w' w1.heap.size sb s1 /\ Mod (only w1.heap.size) w3 w') ?_ ?_
 ·have e0 : ∀ a : Act, Act.get a 7 = .pointer (some ⟨w1.heap.size, 0, none⟩) -> (#[Operand.tmp 7] : Array Operand).map a.eval = #[.pointer (some ⟨w1.heap.size, 0, none⟩)] := fun a h => by simp [Ze, h]
  rw [e0 _ (by simp (disch := first | omega | simp only [Zs]; omega) only [Zo, Ze, Zn, Zq]), hver0, hs1]
  exact hI w3 _ sb _ hrd0
 rintro e w4 ⟨rfl, hrd4, hm4⟩
 refine ⟨_, rfl, Zv rfl (x_nilCheck (q := ⟨vb, 0, none⟩) ?_) (Zv rfl (Za hver (b := vb) (o0 := 0) ?_) ?_)⟩
 ·simp (disch := first | omega | simp only [Zs]; omega) only [Zo, Ze, Zn, Zq]
 ·simp (disch := first | omega | simp only [Zs]; omega) only [Zo, Ze, Zn, Zq]
 have hvb1 : vb ≠ w1.heap.size := by have := hm1.size; omega
 have hC4 : Cur σ none' vb 0 (d v) w4 := hC3.later hm4 (fun e => hvb1 e) (fun _ f => f.elim)
 obtain ⟨hC5, C5, T5, hb5, hz5⟩ := cur_ver hC4 hlay hsz htg htg0 hfit
 refine wpl_skip rfl (x_store1 hs16 (b := vb) (o := 0 + 0) (v := .int .i16 ver) (u := C5[0]) ?_ ?_ rfl ?_ ?_) (wpList_nil ?_)
 ·simp (disch := first | omega | simp only [Zs]; omega) only [Zo, Ze, Zn, Zq]
 ·simp (disch := first | omega | simp only [Zs]; omega) only [Zo, Ze, Zn, Zq]
 ·rw [Zc hb5]; exact Array.getElem?_eq_getElem hz5
 ·exact Zz hb5
 have hm5 : Mod (only vb) w4 (w4.setCell ⟨vb, 0 + 0, none⟩ (.int .i16 ver)) := (Mod.refl w4).put _ _
 have hvcell : (w4.setCell ⟨vb, 0 + 0, none⟩ (.int .i16 ver)).cell? ⟨vb, 0 + 0, none⟩ = some (.int .i16 ver) := by
  rw [Zc (heap_setCell_same hb5 _)]; simp [hz5]
 obtain ⟨w5, hw5⟩ : ∃ w5, w5 = w4.setCell ⟨vb, 0 + 0, none⟩ (.int .i16 ver) := ⟨_, rfl⟩
 rw [<- hw5] at hC5 hm5 hvcell ⊢
 rw [<- hdv] at hC5
 have hm35 : Mod (fun k => k = vb \/ k = w1.heap.size) w3 w5 := hm4.trans' hm5 (fun _ _ h => .inr h) (fun i _ h => .inl h)
 have hm05 : Mod (only vb) w w5 := hm03.trans' hm35 (fun _ _ h => h) (fun i hi h => by rcases h with h | h; exact h; omega)
 have hl35 := hm35.size
 have hrd : Rd w5 w1.heap.size sb s1 := hrd4.mod hm5 (fun e => hvb1 e.symm) (fun e => hvs e.symm)
 refine wp_seq (wp_region_lit (Zv rfl Zm ?_))
 simp (disch := omega) only [Zo, Ze, Zn, g0]
 refine Zv rfl (x_nilCheck (q := ⟨vb, 0, none⟩) ?_) ?_
 ·simp (disch := (simp only [Zs]; omega)) only [Zo, Ze, Zq]
 refine Zv rfl (Za hver (b := vb) (o0 := 0) ?_) ?_
 ·simp (disch := (simp only [Zs]; omega)) only [Zo, Ze, Zq]
 refine Zv rfl (Zl h16 (b := vb) (o := 0 + 0) ?_ hvcell) ?_
 ·simp (disch := (simp only [Zs]; omega)) only [Zo, Ze, Zq]
 refine Zv rfl Zi (wpList_nil ?_)
 simp (disch := (simp only [Zs]; omega)) only [Zo, Ze, Zq]
 refine wp_seq (wp_region_lit (Zv rfl Zm (wpList_nil ?_)))
 refine wp_seq (wp_region_lit (Zv rfl Zm ?_))
 simp (disch := omega) only [Zo, Ze, Zn, g0]
 refine Zv rfl Zi (wpList_nil ?_)
 simp (disch := (simp only [Zs]; omega)) only [Zo, Ze, Zq]
 have hgl : gErr < w.heap.size := World.block_lt_of_cell? _ _ hE
 refine wp_mono (hrest ⟨w1.heap.size, sb, ver, false, uns, ev⟩ (fun k => (k = sb \/ w.heap.size <= k) /\ k ≠ w1.heap.size) vb 0 dv s1 _ w5 ?_ ?_ ?_ ?_ hns) ?_
 ·refine ⟨?_, ?_, ?_, ?_, ?_, ?_, hrd, hE.mod hm05 (fun e => hg e.symm), by show w1.heap.size ≠ gErr; omega⟩
  ·simp only [Zs, slPlain]; exact gN
  ·simp only [Zd]; exact gd
  ·show Act.get _ 7 = _
   simp (disch := first | omega | simp only [Zs]; omega) only [Zo, Ze, Zn, Zq]
  ·show Act.get _ 8 = _
   simp (disch := first | omega | simp only [Zs]; omega) only [Zo, Ze, Zn, Zq]
  ·show Act.get _ 2 = _
   simp (disch := first | omega | simp only [Zs]; omega) only [Zo, Ze, Zn, Zq, g2]
  ·intro q hq
   cases hq
 ·rw [hs]
  simp (disch := first | omega | simp only [Zs]; omega) only [Zo, Ze, Zn, Zq]
 ·obtain ⟨C, t, h1, h2, h3, h4⟩ := hC5.mem
  refine ⟨C, t, h1, h2, h3.mod (Mod.refl (S := none') w5) (fun _ f => f.elim) (fun _ f => f.elim), ?_⟩
  cases htg : σ.tg with
  | none => rw [htg] at h4; exact h4
  | some o => rw [htg] at h4; exact TagsR.mod h4 (Mod.refl (S := none') w5) (fun _ f => f.elim) (fun _ f => f.elim)
 ·refine ⟨fun k hk => ⟨hk.2, ?_⟩, fun k hk => ⟨.inr (by omega), by omega⟩, ⟨.inl rfl, by show sb ≠ w1.heap.size; omega⟩, by show sb < w5.heap.size; omega, by show vb ≠ w1.heap.size; omega, hg⟩
  rcases hk.1 with rfl | h
  ·exact fun e => hvs e.symm
  ·omega
 ·rintro e a' w' ⟨rfl, hdf, hst, hout⟩
  have hmod : Mod (only vb) w w' := by
   refine hm05.trans' hst.mod (fun _ _ h => h) (fun i hi h => ?_)
   rcases h with h | h
   ·have : i = w1.heap.size := h
    omega
   ·exact h
  refine bodyPost_ret (results_tmp hres _ P w') hdf ⟨_, rfl, hmod, ?_⟩
  revert hout hns
  cases f ver false dv s1 with
  | ok v' s' =>
   intro hns hout
   refine ⟨hout.1, ?_⟩
   obtain ⟨C, t, h1, h2, h3, h4⟩ := hout.2.mem
   refine ⟨C, t, h1, h2, h3.mod (Mod.refl (S := none') w') (fun _ _ f => f) (fun _ h => h.1), ?_⟩
   cases htg : σ.tg with
   | none => rw [htg] at h4; exact h4
   | some o => rw [htg] at h4; exact TagsR.mod h4 (Mod.refl (S := none') w') (fun _ _ f => f) (fun _ h => h.1)
  | early => intro _ hout; exact hout
  | stuck => intro hns _; exact (hns rfl).elim
end
/-- a new variable that is filled whole -/
theorem fill_new (w : World) (T : TypeId) {zc cs : Array Value} (h : zc.size = cs.size) : ((w.alloc (.cells zc T)).setCells w.heap.size 0 cs.toList).heap[w.heap.size]? = some (.cells cs T (0, 0)) /\ Mod none' w ((w.alloc (.cells zc T)).setCells w.heap.size 0 cs.toList) := by
 have b1 := Zh w (.cells zc T)
 have o1 : Mod none' w (w.alloc (.cells zc T)) := (Mod.refl w).alloc _
 have l1 : (w.alloc (.cells zc T)).heap.size = w.heap.size + 1 := by simp
 obtain ⟨C1, k1, k2, k3, k4⟩ := heap_setCells (w := w.alloc (.cells zc T)) cs.toList 0 _ b1
 have hC1 : C1 = cs := by
  apply Array.ext
  ·omega
  ·intro i h1 h2
   have := k3 i (by simpa using h2) (by omega)
   rw [Nat.zero_add, Array.getElem?_eq_getElem h1] at this
   simpa [h2] using this
 subst hC1
 have p1 := mod_setCells w.heap.size (w.alloc (.cells zc T)) 0 C1.toList
 exact ⟨k1, o1.trans' p1 (fun _ _ f => f) (fun j hj e => by have : j = w.heap.size := e; omega)⟩
theorem fill_there {w : World} {T : TypeId} {zc cs : Array Value} (h : zc.size = cs.size) : (w.alloc (.cells zc T)).there w.heap.size 0 cs.size := by
 have b1 := Zh w (.cells zc T)
 intro j hj
 rw [Zc b1, Zz b1, Array.getElem?_eq_getElem (by omega)]
 exact ⟨rfl, rfl⟩
/-- a variable's cells after a store of the whole -/
theorem store_whole {w : World} {b T : Nat} {zc cs : Array Value} (hb : w.heap[b]? = some (.cells zc T (0, 0))) (h : zc.size = cs.size) : (w.setCells b 0 cs.toList).heap[b]? = some (.cells cs T (0, 0)) /\ Mod (only b) w (w.setCells b 0 cs.toList) := by
 obtain ⟨C1, k1, k2, k3, k4⟩ := heap_setCells (w := w) cs.toList 0 _ hb
 have hC1 : C1 = cs := by
  apply Array.ext
  ·omega
  ·intro i h1 h2
   have := k3 i (by simpa using h2) (by omega)
   rw [Nat.zero_add, Array.getElem?_eq_getElem h1] at this
   simpa [h2] using this
 subst hC1
 exact ⟨k1, mod_setCells b w 0 C1.toList⟩
theorem there_whole {w : World} {b T : Nat} {zc cs : Array Value} (hb : w.heap[b]? = some (.cells zc T (0, 0))) (h : zc.size = cs.size) : w.there b 0 cs.size := by
 intro j hj
 rw [Zc hb, Zz hb, Array.getElem?_eq_getElem (by omega)]
 exact ⟨rfl, rfl⟩
/-- a new kept message, by value -/
def NewK (P : Program) (f : FuncId) (σ : St) (v : SV) : Prop := ∀ w, Calls P f #[] w fun e w' => ∃ cs : Array Value, e = .returned (.agg cs) /\ Mod none' w w' /\ cs.size = σ.sz /\ cs.all (·.oneCell') = true /\ ∀ (W : World) (b t : Nat), W.heap[b]? = some (.cells cs t (0, 0)) -> Cur σ none' b 0 v W
def RFK (P : Program) (f : FuncId) (σ : St) (K : SV -> RS -> R SV) : Prop :=
 ∀ vb v srcv sb bs nil ev w, ErrIs w ev -> vb ≠ gErr -> vb ≠ sb -> sb < w.heap.size -> Cur σ none' vb 0 v w -> Src w srcv sb bs nil -> K v ⟨bs, nil, false⟩ ≠ .stuck ->
  Calls P f #[.pointer (some ⟨vb, 0, none⟩), srcv] w fun e w' => ∃ r, e = .returned r /\ Mod (only vb) w w' /\ match K v ⟨bs, nil, false⟩ with
   | .ok v' s' => r = endErr ev s'.bad /\ Cur σ (fun k => k = sb \/ w.heap.size <= k) vb 0 v' w'
   | .early => r = ev
   | .stuck => False
/-- what the door of a kept message answers -/
def DoorK (P : Program) (f : FuncId) (K : RS -> R SV) (G : SV -> List Tr) : Prop :=
 ∀ srcv bs ev w, ErrIs w ev -> (∃ tx vx, ev = .iface tx vx) -> Srcs w srcv bs -> bs.length <= 4294967295 -> K ⟨bs, bs.isEmpty, false⟩ ≠ .stuck ->
  Calls P f #[srcv] w fun e w' => ∃ cs ok, e = .returned (.tuple #[.agg cs, .bool ok]) /\ Mod none' w w' /\ cs.size = 5 /\ cs.all (·.oneCell') = true /\
   match K ⟨bs, bs.isEmpty, false⟩ with
   | .ok v' s' => ok = !s'.bad /\ (ok = true -> ∃ ver, v'.1[0]? = some (.num ver) /\ TreeR w' (From w) (from' cs 0) (.mk ver [] false (G v') v'.2))
   | .early => ok = false
   | .stuck => False
section
variable {P : Program} {σ : St} {fn : Func} {f fr : FuncId} {i0 i1 : Nat} {y0 y1 y2 y3 y4 : TypeId} {p0 p1 p2 p3 p4 : String} {e0 e1 e2 e3 e4 : Array Edge} {ts : Array TypeId}
theorem rf_kept {ft : FT} {d : SV -> SV} {b : Bool} (hf : P.funcs[f]? = some fn) (hN : fn.ntmps = 8) (hres : fn.results = #[.tmp 4])
  (hbody : fn.body = some (.seq (.region i0 #[⟨some 4, .assign (.const .nilIface), y0, p0, e0, none⟩] false) (.seq (.region i1 #[⟨some 5, .move (.tmp 0), y1, p1, e1, none⟩, ⟨some 6, .move (.tmp 1), y2, p2, e2, none⟩,
   ⟨some 7, .call ⟨.value (.func fr), #[.tmp 5, .tmp 6, .const (.bool b)], ts⟩, y3, p3, e3, none⟩, ⟨some 4, .assign (.tmp 7), y4, p4, e4, none⟩] false) .ret)))
  (hr : ReadK P fr σ ft d) (hbd : bodied P fr = true) : RFK P f σ (fun v => kRead ft (d v)) := by
 intro vb v srcv sb bs nil ev w hE hg hvs hsb hC hsrc hns
 refine calls_of_wp hf hbody ?_
 rw [hN]
 refine wp_act (fun a : Act => Act.get a 0 = .pointer (some ⟨vb, 0, none⟩) /\ Act.get a 1 = srcv /\ a.tmps.size = 8 /\ a.defers = []) ⟨by rw [Zj _ _ _ (by simp)]; rfl, by rw [Zj _ _ _ (by simp)]; rfl, by simp, rfl⟩ ?_
 rintro a ⟨a0, a1, aN, ad⟩
 refine wp_seq (wp_region_lit (Zv rfl Zi (wpList_nil ?_)))
 refine wp_seq (wp_region_lit (Zv rfl Zm (Zv rfl Zm (wpl_call rfl (Zy hbd rfl) (R := fun e w' => ∃ r, e = .returned r /\ Mod (only vb) w w' /\ match kRead ft (d v) ⟨bs, nil, false⟩ with
   | .ok v' s' => r = endErr ev s'.bad /\ Cur σ (fun k => k = sb \/ w.heap.size <= k) vb 0 v' w'
   | .early => r = ev
   | .stuck => False) ?_ ?_))))
 ·have e0 : ∀ a : Act, Act.get a 5 = .pointer (some ⟨vb, 0, none⟩) -> Act.get a 6 = srcv -> (#[Operand.tmp 5, .tmp 6, .const (.bool b)] : Array Operand).map a.eval = #[.pointer (some ⟨vb, 0, none⟩), srcv, .bool b] := fun a h h' => by
   simp [Ze, h, h']
   rfl
  rw [e0 _ ?_ ?_]
  ·exact hr vb v b srcv sb bs nil ev w hE hg hvs hsb hC hsrc hns
  ·simp (disch := first | omega | simp only [Zs]; omega) only [Zo, Ze, Zn, Zq, a0]
  ·simp (disch := first | omega | simp only [Zs]; omega) only [Zo, Ze, Zn, Zq, a1]
 ·rintro e w' ⟨r, rfl, hm, ho⟩
  refine ⟨r, rfl, Zv rfl Zi (wpList_nil (wp_ret (bodyPost_ret (results_tmp hres _ P w') ?_ ⟨_, rfl, hm, ?_⟩)))⟩
  ·simp only [Zd]; exact ad
  ·rw [show ∀ (a : Act) t, a.tmps.getD t undef = Act.get a t from fun _ _ => rfl]
   simp (disch := first | omega | simp only [Zs]; omega) only [Zo, Ze, Zn, Zq]
   exact ho
end
section
variable {P : Program} {σ : St} {fn : Func} {f fNew fRF fTell : FuncId} {TI TL TX i0 i1 i3 i4 i5 i6 i7 yi y16 yb eb yE : Nat} {ts1 ts3 ts5 : Array TypeId}
 {y00 y01 y10 y11 y12 y30 y31 y32 y33 y40 y41 y42 y50 y51 y52 y60 y61 y62 y63 y64 y70 y71 y72 yg : TypeId} {p00 p01 p10 p11 p12 p30 p31 p32 p33 p40 p41 p42 p50 p51 p52 p60 p61 p62 p63 p64 p70 p71 p72 : String} {e00 e01 e10 e11 e12 e30 e31 e32 e33 e40 e41 e42 e50 e51 e52 e60 e61 e62 e63 e64 e70 e71 e72 : Array Edge}
set_option maxHeartbeats 800000 in
theorem door_kept {K : SV -> RS -> R SV} {v1 : SV} {G : SV -> List Tr} (hf : P.funcs[f]? = some fn) (hN : fn.ntmps = 18) (hres : fn.results = #[.cell 2 TI, .tmp 3]) (hT : TellT P TI TL)
  (hbody : fn.body = some (.seq (.region i0 #[⟨some 2, .alloc TI, y00, p00, e00, none⟩, ⟨some 3, .assign (.const (.bool false)), y01, p01, e01, none⟩] false)
   (.seq (.region i1 #[⟨some 6, .call ⟨.value (.func fNew), #[], ts1⟩, y10, p10, e10, none⟩, ⟨some 4, .alloc TX, y11, p11, e11, none⟩, ⟨none, .store TX (.tmp 4) (.tmp 6), y12, p12, e12, none⟩] false)
   (.seq (.seq (.region i3 #[⟨some 7, .move (.tmp 0), y30, p30, e30, none⟩, ⟨some 8, .call ⟨.builtin .append, #[.const (.slice none 0 0), .tmp 7], #[yb, yb]⟩, y31, p31, e31, none⟩,
     ⟨some 9, .call ⟨.value (.func fRF), #[.tmp 4, .tmp 8], ts3⟩, y32, p32, e32, none⟩, ⟨some 10, .binOp .neq yE (.tmp 9) (.const .nilIface) yg, y33, p33, e33, none⟩] false)
    (.cond (.tmp 10) (.seq (.region i4 #[⟨some 11, .build TI #[], y40, p40, e40, none⟩, ⟨none, .store TI (.tmp 2) (.tmp 11), y41, p41, e41, none⟩, ⟨some 3, .assign (.const (.bool false)), y42, p42, e42, none⟩] false) .ret) .skip))
   (.seq (.region i5 #[⟨some 12, .call ⟨.value (.func fTell), #[.tmp 4], ts5⟩, y50, p50, e50, none⟩, ⟨some 5, .alloc TI, y51, p51, e51, none⟩, ⟨none, .store TI (.tmp 5) (.tmp 12), y52, p52, e52, none⟩] false)
   (.seq (.region i6 #[⟨some 13, .fieldAddr TX (.tmp 4) 0, y60, p60, e60, none⟩, ⟨some 14, .load y16 (.tmp 13), y61, p61, e61, none⟩, ⟨some 15, .convert y16 yi (.tmp 14), y62, p62, e62, none⟩, ⟨some 16, .fieldAddr TI (.tmp 5) 0, y63, p63, e63, none⟩, ⟨none, .store yi (.tmp 16) (.tmp 15), y64, p64, e64, none⟩] false)
   (.seq (.region i7 #[⟨some 17, .load TI (.tmp 5), y70, p70, e70, none⟩, ⟨none, .store TI (.tmp 2) (.tmp 17), y71, p71, e71, none⟩, ⟨some 3, .assign (.const (.bool true)), y72, p72, e72, none⟩] false) .ret)))))))
  (hb1 : bodied P fNew = true) (hb3 : bodied P fRF = true) (hb4 : bodied P fTell = true) (hi : intTy P yi .i64 = true) (h16 : intTy P y16 .i16 = true) (h16l : one P y16 = true) (h64s : sized P yi 1 = true) (hby : elemInfo P yb eb 1 = true) (hE : isIface P yE = true)
  (hver : fieldOff P TX 0 = some 0) (hverI : fieldOff P TI 0 = some 0) (hlay : σ.lay.at 0 = some (0, .int .i16)) (hX : ∃ z, zeroOf P TX = some z /\ z.cells.size = σ.sz) (hXs : sized P TX σ.sz = true)
  (hNew : NewK P fNew σ v1) (hRF : RFK P fRF σ K) (hTell : TellC P fTell σ G) : DoorK P f (K v1) G := by
 intro srcv bs ev w hEr hev hsrc hbl hns
 have hgl : gErr < w.heap.size := World.block_lt_of_cell? _ _ hEr
 refine calls_of_wp hf hbody ?_
 rw [hN]
 refine wp_act (fun a : Act => Act.get a 0 = srcv /\ a.tmps.size = 18 /\ a.defers = []) ⟨by rw [Zj _ _ _ (by simp)]; rfl, by simp, rfl⟩ ?_
 rintro a ⟨a0, aN, ad⟩
 refine wp_seq (wp_region_lit (Zv rfl (x_alloc hT.zero) (Zv rfl Zi (wpList_nil ?_))))
 have r1 := Zh w (.cells (Value.agg #[.int .i64 0, .slice none 0 0, .bool false, .slice none 0 0, .slice none 0 0]).cells TI)
 have m1 : Mod none' w (w.alloc (.cells (Value.agg #[.int .i64 0, .slice none 0 0, .bool false, .slice none 0 0, .slice none 0 0]).cells TI)) := (Mod.refl w).alloc _
 generalize w.alloc (.cells (Value.agg #[.int .i64 0, .slice none 0 0, .bool false, .slice none 0 0, .slice none 0 0]).cells TI) = w1 at *
 obtain ⟨rb, hrb⟩ : ∃ rb, rb = w.heap.size := ⟨_, rfl⟩
 rw [<- hrb] at r1 ⊢
 replace r1 : w1.heap[rb]? = some (.cells #[.int .i64 0, .slice none 0 0, .bool false, .slice none 0 0, .slice none 0 0] TI (0, 0)) := r1
 have hrb1 := lt_of_block r1
 -- a new message
 refine wp_seq (wp_region_lit (wpl_call rfl (Zy hb1 rfl) (R := fun e w' => ∃ cs : Array Value, e = .returned (.agg cs) /\ Mod none' w1 w' /\ cs.size = σ.sz /\ cs.all (·.oneCell') = true /\ ∀ (W : World) (b t : Nat), W.heap[b]? = some (.cells cs t (0, 0)) -> Cur σ none' b 0 v1 W) (by simpa using hNew w1) ?_))
 rintro e w2 ⟨cs0, rfl, m2, z2, o2, c2⟩
 obtain ⟨zx, hzx, hzs⟩ := hX
 refine ⟨_, rfl, Zv rfl (x_alloc hzx) (wpl_skip rfl (x_storeN (cs := cs0) (b := w2.heap.size) (o := 0) (by rw [z2]; exact hXs) ?_ ?_ o2 (fill_there (by rw [hzs, z2]))) (wpList_nil ?_))⟩
 ·simp (disch := first | omega | simp only [Zs]; omega) only [Zo, Ze, Zn, Zq]
 ·simp (disch := first | omega | simp only [Zs]; omega) only [Zo, Ze, Zn, Zq]
 obtain ⟨b3, m3⟩ := fill_new w2 TX (zc := zx.cells) (cs := cs0) (by rw [hzs, z2])
 generalize (w2.alloc (.cells zx.cells TX)).setCells w2.heap.size 0 cs0.toList = w3 at *
 obtain ⟨vb, hvb⟩ : ∃ vb, vb = w2.heap.size := ⟨_, rfl⟩
 rw [<- hvb] at b3 ⊢
 have c3 : Cur σ none' vb 0 v1 w3 := c2 w3 vb TX b3
 have m03 : Mod none' w w3 := (m1.trans m2).trans m3
 have hv3 := lt_of_block b3
 have hs12 := m2.size
 refine wp_act (fun a : Act => Act.get a 0 = srcv /\ Act.get a 2 = .pointer (some ⟨rb, 0, none⟩) /\ Act.get a 4 = .pointer (some ⟨vb, 0, none⟩) /\ a.tmps.size = 18 /\ a.defers = []) ⟨?_, ?_, ?_, ?_, ?_⟩ ?_
 ·simp (disch := first | omega | simp only [Zs]; omega) only [Zo, Ze, Zn, Zq, a0]
 ·simp (disch := first | omega | simp only [Zs]; omega) only [Zo, Ze, Zn, Zq]
 ·simp (disch := first | omega | simp only [Zs]; omega) only [Zo, Ze, Zn, Zq]
 ·simp only [Zs]; exact aN
 ·simp only [Zd]; exact ad
 clear a0 aN ad
 rintro a ⟨a0, a2, a4, aN, ad⟩
 -- it is read
 have hsrc3 : Srcs w3 srcv bs := hsrc.mod m03
 refine wp_seq (wp_seq (wp_region_lit (Zv rfl Zm (wpl_copy hby rfl ?_ hsrc3 hbl ?_))))
 ·simp (disch := first | omega | simp only [Zs]; omega) only [Zo, Ze, Zn, Zq, a0]
 intro v4 w4 m4 h4
 obtain ⟨sb4, hsb4, hsb4', hs4⟩ : ∃ sb4, sb4 < w4.heap.size /\ vb ≠ sb4 /\ Src w4 v4 sb4 bs bs.isEmpty := by
  have := m03.size
  have := m4.size
  have := m1.size
  rcases h4 with ⟨rfl, rfl⟩ | ⟨g, g1, g2, g3, g4⟩
  ·exact ⟨gErr, by omega, by omega, .inl ⟨rfl, rfl, rfl⟩⟩
  ·exact ⟨g, g2, by omega, by rw [g4]; exact g3⟩
 have hE4 : ErrIs w4 ev := (hEr.mod m03 (fun f => f)).mod m4 (fun f => f)
 have c4 : Cur σ none' vb 0 v1 w4 := c3.later m4 (fun f => f) (fun _ f => f.elim)
 have m04 : Mod none' w w4 := m03.trans m4
 refine wpl_call rfl (Zy hb3 rfl) (R := fun e w' => ∃ r, e = .returned r /\ Mod (only vb) w4 w' /\ match K v1 ⟨bs, bs.isEmpty, false⟩ with
   | .ok v' s' => r = endErr ev s'.bad /\ Cur σ (fun k => k = sb4 \/ w4.heap.size <= k) vb 0 v' w'
   | .early => r = ev
   | .stuck => False) ?_ ?_
 ·have e0 : ∀ a : Act, Act.get a 4 = .pointer (some ⟨vb, 0, none⟩) -> Act.get a 8 = v4 -> (#[Operand.tmp 4, .tmp 8] : Array Operand).map a.eval = #[.pointer (some ⟨vb, 0, none⟩), v4] := fun a h h' => by simp [Ze, h, h']
  rw [e0 _ ?_ ?_]
  ·have := m1.size
   exact hRF vb _ v4 sb4 bs _ ev w4 hE4 (by omega) hsb4' hsb4 c4 hs4 hns
  ·simp (disch := first | omega | simp only [Zs]; omega) only [Zo, Ze, Zn, Zq, a4]
  ·simp (disch := first | omega | simp only [Zs]; omega) only [Zo, Ze, Zn, Zq]
 rintro e w5 ⟨r5, rfl, m5, h5⟩
 refine ⟨r5, rfl, ?_⟩
 have m05 : Mod none' w w5 := m04.trans' m5 (fun _ _ f => f) (fun i hi e => by have : i = vb := e; have := m1.size; omega)
 have hr5 : w5.heap[rb]? = some (.cells #[.int .i64 0, .slice none 0 0, .bool false, .slice none 0 0, .slice none 0 0] TI (0, 0)) :=
  m5.some (m4.some (m3.some (m2.some r1 (fun f => f)) (fun f => f)) (fun f => f)) (fun e => by have : rb = vb := e; omega)
 obtain ⟨isbad, hisbad⟩ : ∃ bad : Bool, (bad = true /\ r5 = ev \/ bad = false /\ r5 = .nilIface) /\ (match K v1 ⟨bs, bs.isEmpty, false⟩ with
   | .ok v' s' => bad = s'.bad /\ Cur σ (fun k => k = sb4 \/ w4.heap.size <= k) vb 0 v' w5
   | .early => bad = true
   | .stuck => False) := by
  revert h5
  cases K v1 ⟨bs, bs.isEmpty, false⟩ with
  | ok v' s' =>
   rintro ⟨h1, h2⟩
   refine ⟨s'.bad, ?_, rfl, h2⟩
   cases hb : s'.bad
   ·exact .inr ⟨rfl, by rw [h1, hb]; rfl⟩
   ·exact .inl ⟨rfl, by rw [h1, hb]; rfl⟩
  | early => intro h; exact ⟨true, .inl ⟨rfl, h⟩, rfl⟩
  | stuck => intro h; exact h.elim
 obtain ⟨hbad, hout⟩ := hisbad
 obtain ⟨tx, vx, hevv⟩ := hev
 refine Zv rfl (x_neqNil (v := r5) (b := isbad) hE (fun _ => rfl) ?_ ?_) (wpList_nil ?_)
 ·rw [Ze, Zq (by simp only [Zs]; omega)]
 ·rcases hbad with ⟨h1, h2⟩ | ⟨h1, h2⟩
  ·exact .inl ⟨h1, tx, vx, h2.trans hevv⟩
  ·exact .inr ⟨h1, h2⟩
 cases isbad with
 | true =>
  refine wp_cond_true ?_ ?_
  ·rw [Ze, Zq (by simp only [Zs]; omega)]
  refine wp_seq (wp_region_lit ?_)
  refine Zv rfl (x_build (cells := #[.int .i64 0, .slice none 0 0, .bool false, .slice none 0 0, .slice none 0 0]) ?_) ?_
  ·simp only [List.map_toArray, List.map_nil]
   rw [built_of hT.parts]
   rfl
  refine wpl_skip rfl (x_storeN (cs := #[.int .i64 0, .slice none 0 0, .bool false, .slice none 0 0, .slice none 0 0]) (b := rb) (o := 0) hT.size ?_ ?_ (by simp [Value.oneCell']) (there_whole hr5 rfl)) (Zv rfl Zi (wpList_nil ?_))
  ·simp (disch := first | omega | simp only [Zs]; omega) only [Zo, Ze, Zn, Zq, a2]
  ·simp (disch := first | omega | simp only [Zs]; omega) only [Zo, Ze, Zn, Zq]
  obtain ⟨k1, hm6⟩ := store_whole (cs := #[.int .i64 0, .slice none 0 0, .bool false, .slice none 0 0, .slice none 0 0]) hr5 rfl
  refine wp_act (c := .ret) (fun a : Act => a.tmps.getD 2 undef = .pointer (some ⟨rb, 0, none⟩) /\ a.tmps.getD 3 undef = .bool false /\ a.defers = []) ⟨?_, ?_, ?_⟩ ?_
  ·rw [show ∀ (a : Act) t, a.tmps.getD t undef = Act.get a t from fun _ _ => rfl]
   simp (disch := first | omega | simp only [Zs]; omega) only [Zo, Ze, Zn, Zq, a2]
  ·rw [show ∀ (a : Act) t, a.tmps.getD t undef = Act.get a t from fun _ _ => rfl]
   simp (disch := first | omega | simp only [Zs]; omega) only [Zo, Ze, Zn, Zq]
   rfl
  ·simp only [Zd]; exact ad
  rintro a9 ⟨z4, z5, zd⟩
  refine wp_ret ?_
  try simp only [Exit.then]
  refine bodyPost_ret (v := .tuple #[.agg #[.int .i64 0, .slice none 0 0, .bool false, .slice none 0 0, .slice none 0 0], .bool false]) (results_cellN_tmp hres (b := rb) (o := 0) (cs := [.int .i64 0, .slice none 0 0, .bool false, .slice none 0 0, .slice none 0 0]) (v := .bool false) z4 z5 hT.many (fun j v hv => by rw [Zc k1, Nat.zero_add]; simpa using hv)) zd ⟨#[.int .i64 0, .slice none 0 0, .bool false, .slice none 0 0, .slice none 0 0], false, rfl, m05.trans' hm6 (fun _ _ f => f) (fun j hj e => by have : j = rb := e; omega), rfl, by simp [Value.oneCell'], ?_⟩
  ·revert hout
   cases K v1 ⟨bs, bs.isEmpty, false⟩ with
   | ok v' s' => rintro ⟨h1, h2⟩; exact ⟨by rw [<- h1]; rfl, fun h => by cases h⟩
   | early => intro _; rfl
   | stuck => intro h; exact h.elim
 | false =>
  refine wp_cond_false ?_ (wp_skip ?_)
  ·rw [Ze, Zq (by simp only [Zs]; omega)]
  obtain ⟨v', s', hft, hs', hc5⟩ : ∃ v' s', K v1 ⟨bs, bs.isEmpty, false⟩ = .ok v' s' /\ s'.bad = false /\ Cur σ (fun k => k = sb4 \/ w4.heap.size <= k) vb 0 v' w5 := by
   revert hout
   cases K v1 ⟨bs, bs.isEmpty, false⟩ with
   | ok v' s' => rintro ⟨h1, h2⟩; exact ⟨v', s', rfl, h1.symm, h2⟩
   | early => intro h; cases h
   | stuck => intro h; exact h.elim
  refine wp_act (fun a : Act => Act.get a 2 = .pointer (some ⟨rb, 0, none⟩) /\ Act.get a 4 = .pointer (some ⟨vb, 0, none⟩) /\ a.tmps.size = 18 /\ a.defers = []) ⟨?_, ?_, ?_, ?_⟩ ?_
  ·simp (disch := first | omega | simp only [Zs]; omega) only [Zo, Ze, Zn, Zq, a2]
  ·simp (disch := first | omega | simp only [Zs]; omega) only [Zo, Ze, Zn, Zq, a4]
  ·simp only [Zs]; exact aN
  ·simp only [Zd]; exact ad
  clear a0 a2 a4 aN ad
  rintro a ⟨a2, a4, aN, ad⟩
  refine wp_seq (wp_region_lit (wpl_call rfl (Zy hb4 rfl) (R := fun e w' => ∃ r, e = .returned r /\ Mod none' w5 w' /\ TreeV w' (From w5) r (.part (G v') v'.2)) ?_ ?_))
  ·have e0 : ∀ a : Act, Act.get a 4 = .pointer (some ⟨vb, 0, none⟩) -> (#[Operand.tmp 4] : Array Operand).map a.eval = #[.pointer (some ⟨vb, 0, none⟩)] := fun a h => by simp [Ze, h]
   rw [e0 _ a4]
   exact hTell vb 0 v' _ w5 hc5
  rintro e w6 ⟨r6, rfl, m6, cs, rfl, q2, q3, q4⟩
  refine ⟨_, rfl, Zv rfl (x_alloc hT.zero) (wpl_skip rfl (x_storeN (cs := cs) (b := w6.heap.size) (o := 0) (by rw [q2]; exact hT.size) ?_ ?_ q3 (fill_there (by rw [q2]; rfl))) (wpList_nil ?_))⟩
  ·simp (disch := first | omega | simp only [Zs]; omega) only [Zo, Ze, Zn, Zq]
  ·simp (disch := first | omega | simp only [Zs]; omega) only [Zo, Ze, Zn, Zq]
  obtain ⟨b7, m7⟩ := fill_new w6 TI (zc := (Value.agg #[.int .i64 0, .slice none 0 0, .bool false, .slice none 0 0, .slice none 0 0]).cells) (cs := cs) (by rw [q2]; rfl)
  generalize (w6.alloc (.cells (Value.agg #[.int .i64 0, .slice none 0 0, .bool false, .slice none 0 0, .slice none 0 0]).cells TI)).setCells w6.heap.size 0 cs.toList = w7 at *
  obtain ⟨tb, htb⟩ : ∃ tb, tb = w6.heap.size := ⟨_, rfl⟩
  rw [<- htb] at b7 ⊢
  refine wp_act (fun a : Act => Act.get a 2 = .pointer (some ⟨rb, 0, none⟩) /\ Act.get a 4 = .pointer (some ⟨vb, 0, none⟩) /\ Act.get a 5 = .pointer (some ⟨tb, 0, none⟩) /\ a.tmps.size = 18 /\ a.defers = []) ⟨?_, ?_, ?_, ?_, ?_⟩ ?_
  ·simp (disch := first | omega | simp only [Zs]; omega) only [Zo, Ze, Zn, Zq, a2]
  ·simp (disch := first | omega | simp only [Zs]; omega) only [Zo, Ze, Zn, Zq, a4]
  ·simp (disch := first | omega | simp only [Zs]; omega) only [Zo, Ze, Zn, Zq]
  ·simp only [Zs]; exact aN
  ·simp only [Zd]; exact ad
  clear a2 a4 aN ad
  rintro a ⟨a2, a4, a5, aN, ad⟩
  -- its version
  obtain ⟨ver, hv0, hfit, hvc⟩ : ∃ ver, v'.1[0]? = some (.num ver) /\ fits .i16 ver /\ w5.cell? ⟨vb, 0 + 0, none⟩ = some (.int .i16 ver) := by
   obtain ⟨C, t, h1, h2, h3, h4⟩ := hc5.mem
   obtain ⟨u, hu, hrep⟩ := RepL.get _ 0 0 _ _ _ hlay h3
   simp only [Rep] at hrep
   obtain ⟨n, hn, hfn, hnum⟩ := hrep
   refine ⟨n, by rw [hu, hnum], hfn, ?_⟩
   rw [Zc h1]
   simp only [from', Nat.add_zero, Array.getD_eq_getD_getElem?] at hn
   cases hc : C[0]? with
   | none => rw [hc] at hn; simp [undef] at hn
   | some q => rw [hc] at hn; simpa using hn
  have m57 : Mod none' w5 w7 := m6.trans m7
  have hvc7 : w7.cell? ⟨vb, 0 + 0, none⟩ = some (.int .i16 ver) := by
   obtain ⟨C, t, h1, h2, h3, h4⟩ := hc5.mem
   rw [Zc h1] at hvc
   rw [Zc (m57.some h1 (fun f => f))]; exact hvc
  have hz7 : 0 < cs.size := by omega
  refine wp_seq (wp_region_lit (Zv rfl (Za hver (b := vb) (o0 := 0) ?_) (Zv rfl (Zl h16l (b := vb) (o := 0 + 0) (v := .int .i16 ver) ?_ hvc7) (Zv rfl (x_convInt (n := ver) h16 hi ?_) (Zv rfl (Za hverI (b := tb) (o0 := 0) ?_)
   (wpl_skip rfl (x_store1 h64s (b := tb) (o := 0 + 0) (v := .int .i64 (IntKind.i64.wrap ver)) (u := cs[0]) ?_ ?_ rfl ?_ ?_) (wpList_nil ?_)))))))
  ·simp (disch := first | omega | simp only [Zs]; omega) only [Zo, Ze, Zn, Zq, a4]
  ·simp (disch := first | omega | simp only [Zs]; omega) only [Zo, Ze, Zn, Zq]
  ·simp (disch := first | omega | simp only [Zs]; omega) only [Zo, Ze, Zn, Zq]
  ·simp (disch := first | omega | simp only [Zs]; omega) only [Zo, Ze, Zn, Zq, a5]
  ·simp (disch := first | omega | simp only [Zs]; omega) only [Zo, Ze, Zn, Zq]
  ·simp (disch := first | omega | simp only [Zs]; omega) only [Zo, Ze, Zn, Zq]
  ·rw [Zc b7]; exact Array.getElem?_eq_getElem hz7
  ·exact Zz b7
  obtain ⟨hw, h64⟩ := kd_i16 ver hfit
  rw [hw]
  have b8 : (w7.setCell ⟨tb, 0 + 0, none⟩ (.int .i64 ver)).heap[tb]? = some (.cells (cs.setIfInBounds 0 (.int .i64 ver)) TI (0, 0)) := heap_setCell_same b7 _
  have m8 : Mod (only tb) w7 (w7.setCell ⟨tb, 0 + 0, none⟩ (.int .i64 ver)) := (Mod.refl w7).put _ _
  generalize w7.setCell ⟨tb, 0 + 0, none⟩ (.int .i64 ver) = w8 at *
  obtain ⟨cv, hcv⟩ : ∃ cv, cv = cs.setIfInBounds 0 (.int .i64 ver) := ⟨_, rfl⟩
  rw [<- hcv] at b8
  have hcv5 : cv.size = 5 := by rw [hcv]; simpa using q2
  have hcv1 : cv.all (·.oneCell') = true := by
   rw [hcv]
   rw [Array.all_eq_true] at q3 ⊢
   intro i hi
   rw [Array.getElem_setIfInBounds]
   split
   ·rfl
   ·exact q3 i (by simpa using hi)
  have hl6 := m6.size
  have hl5 := lt_of_block hr5
  have hr8 : w8.heap[rb]? = some (.cells #[.int .i64 0, .slice none 0 0, .bool false, .slice none 0 0, .slice none 0 0] TI (0, 0)) := m8.some (m57.some hr5 (fun f => f)) (fun e => by have : rb = tb := e; omega)
  refine wp_act (fun a : Act => Act.get a 2 = .pointer (some ⟨rb, 0, none⟩) /\ Act.get a 5 = .pointer (some ⟨tb, 0, none⟩) /\ a.tmps.size = 18 /\ a.defers = []) ⟨?_, ?_, ?_, ?_⟩ ?_
  ·simp (disch := first | omega | simp only [Zs]; omega) only [Zo, Ze, Zn, Zq, a2]
  ·simp (disch := first | omega | simp only [Zs]; omega) only [Zo, Ze, Zn, Zq, a5]
  ·simp only [Zs]; exact aN
  ·simp only [Zd]; exact ad
  clear a2 a4 a5 aN ad
  rintro a ⟨a2, a5, aN, ad⟩
  refine wp_seq (wp_region_lit (Zv rfl (x_loadN (cs := cv.toList) (b := tb) (o := 0) (by rw [Array.length_toList, hcv5]; exact hT.many) ?_ ?_) (wpl_skip rfl (x_storeN (cs := cv) (b := rb) (o := 0) (by rw [hcv5]; exact hT.size) ?_ ?_ hcv1 (there_whole hr8 (by rw [hcv5]; rfl))) (Zv rfl Zi (wpList_nil ?_)))))
  ·simp (disch := first | omega | simp only [Zs]; omega) only [Zo, Ze, Zn, Zq, a5]
  ·intro j u hu
   rw [Zc b8, Nat.zero_add]; simpa using hu
  ·simp (disch := first | omega | simp only [Zs]; omega) only [Zo, Ze, Zn, Zq, a2]
  ·simp (disch := first | omega | simp only [Zs]; omega) only [Zo, Ze, Zn, Zq, Array.toArray_toList]
  obtain ⟨k1, hm9⟩ := store_whole (cs := cv) hr8 (by rw [hcv5]; rfl)
  have hmm : Mod none' w (w8.setCells rb 0 cv.toList) := ((m05.trans m57).trans' m8 (fun _ _ f => f) (fun j hj e => by have : j = tb := e; have := m05.size; omega)).trans' hm9 (fun _ _ f => f) (fun j hj e => by have : j = rb := e; omega)
  refine wp_act (c := .ret) (fun a : Act => a.tmps.getD 2 undef = .pointer (some ⟨rb, 0, none⟩) /\ a.tmps.getD 3 undef = .bool true /\ a.defers = []) ⟨?_, ?_, ?_⟩ ?_
  ·rw [show ∀ (a : Act) t, a.tmps.getD t undef = Act.get a t from fun _ _ => rfl]
   simp (disch := first | omega | simp only [Zs]; omega) only [Zo, Ze, Zn, Zq, a2]
  ·rw [show ∀ (a : Act) t, a.tmps.getD t undef = Act.get a t from fun _ _ => rfl]
   simp (disch := first | omega | simp only [Zs]; omega) only [Zo, Ze, Zn, Zq]
   rfl
  ·simp only [Zd]; exact ad
  rintro a9 ⟨z4, z5, zd⟩
  refine wp_ret ?_
  try simp only [Exit.then]
  refine bodyPost_ret (v := .tuple #[.agg cv, .bool true]) (results_cellN_tmp hres (b := rb) (o := 0) (cs := cv.toList) (v := .bool true) z4 z5 (by rw [Array.length_toList, hcv5]; exact hT.many) (fun j v hv => by rw [Zc k1, Nat.zero_add]; simpa using hv)) zd ⟨cv, true, rfl, hmm, hcv5, hcv1, ?_⟩
  ·rw [hft]
   refine ⟨by rw [hs']; rfl, fun _ => ⟨ver, hv0, ?_⟩⟩
   have hsz := m05.size
   have q5 : TreeR (w8.setCells rb 0 cv.toList) (From w) (from' cs 0) (.mk 0 [] false (G v') v'.2) := ((q4.lt.mod m7 (fun _ _ f => f) (fun _ h => h)).mod m8 (fun k hk e => by have h1 : k = tb := e; have := hk.2; omega) (fun _ h => h)).mod hm9 (F' := From w)
    (fun k hk e => by have h1 : k = rb := e; have h2 : w5.heap.size <= k := hk.1; omega) (fun k hk => by have h2 : w5.heap.size <= k := hk.1; show w.heap.size <= k; omega)
   have ej : ∀ j, 0 < j -> from' cv 0 j = from' cs 0 j := by
    intro j hj
    rw [hcv]
    simp only [from', Nat.zero_add, Array.getD_eq_getD_getElem?]
    rw [Array.getElem?_setIfInBounds_ne (by omega)]
   cases q5 with
   | mk h0 hn h1 h2 hb h3 h3' h4 h4' =>
    exact .mk (by rw [hcv]; simp [from', hz7]) h64 (by rw [ej 1 (by decide)]; exact h1) (by rw [ej 2 (by decide)]; exact h2) hb (by rw [ej 3 (by decide)]; exact h3) h3' (by rw [ej 4 (by decide)]; exact h4) h4'
end
end Go.Proofs.YtcldbjehliladaaDoor
